/-
  THE PROOF OF 'Rows.LawS3194ARoundTripSaid'. The frame is the guide's shell at this function (the closing line goes by 'Below'); the walks are this seat's.
-/
import Derived.Test.YbulkbncwMic
import Derived.WalkKit
import Derived.ProofKit
import Derived.OpenShut
import Derived.ShutString
import Derived.Deep.QuietTactic
import Derived.BigQuiet
import Derived.WalkSmall
namespace Go.Proofs.Ybulkbncw.lawS3194ARoundTrip
open Go.ChangeShapes Go.WideShapes Go.ChangeAt Go.RowKit
open Go.ChangeMaps (open_string shut_string)
open Go.Proofs.Ybulkbncw.mic
set_option linter.unusedVariables false      -- a walk need not use every 'w<i>' (that an integer argument fits its kind)

theorem own : ownKnob Yba.prog.godebug = none := by kernel_rfl


theorem wrap_back (n : Int) (h : 28 ≤ n) (h' : n ≤ 127) : (IntKind.u8.wrap (IntKind.i64.wrap n) != n) = false := by
  rw [IntWalk.i64_in n ⟨by omega, by omega⟩, IntWalk.u8_in n ⟨by omega, by omega⟩]; simp

set_option maxHeartbeats 400000 in
theorem walk_ok (s : ByteArray) (w : World) (hs : s.size ≤ maxLen) (h3 : 3 ≤ s.size) (hm : s.size ≤ 1024) (h0 : 28 ≤ (s[0].toNat : Int)) (h0' : (s[0].toNat : Int) ≤ 127) (h1 : 28 ≤ (s[1].toNat : Int)) (h1' : (s[1].toNat : Int) ≤ 127) (h2 : 28 ≤ (s[2].toNat : Int)) (h2' : (s[2].toNat : Int) ≤ 127) :
    Calls Yba.prog 4 #[.string s] w fun e w' => e = .returned (.bool true) ∧ Below w.heap.size w w' := by
  have d0 : decide ((s[0].toNat : Int) - 28 < 0) = false := by simp; omega
  have f0 : (s[0].toNat : Int) - 28 ≤ 99 := by omega
  have e0 : decide (99 < (s[0].toNat : Int) - 28) = false := by simp; omega
  have k0 : 0 < s.size := by omega
  have g0 : (0 : Int) < (s.size : Int) := by omega
  have q0 := wrap_back _ h0 h0'
  have d1 : decide ((s[1].toNat : Int) - 28 < 0) = false := by simp; omega
  have f1 : (s[1].toNat : Int) - 28 ≤ 99 := by omega
  have e1 : decide (99 < (s[1].toNat : Int) - 28) = false := by simp; omega
  have k1 : 1 < s.size := by omega
  have g1 : (1 : Int) < (s.size : Int) := by omega
  have q1 := wrap_back _ h1 h1'
  have d2 : decide ((s[2].toNat : Int) - 28 < 0) = false := by simp; omega
  have f2 : (s[2].toNat : Int) - 28 ≤ 99 := by omega
  have e2 : decide (99 < (s[2].toNat : Int) - 28) = false := by simp; omega
  have k2 : 2 < s.size := by omega
  have g2 : (2 : Int) < (s.size : Int) := by omega
  have q2 := wrap_back _ h2 h2'
  go_enter Yba.func4, Yba.ntmps4
  go_wp2_with (go_at_call 6; refine (mic_all s _ hs h3 h0 h0' h1 h1' h2 h2').mono ?_; rintro e w1 ⟨rfl, hb⟩)
  refine wp_loop_rounds 4 ?_
  rw [rounds_succ]
  go_wp2
  go_quiet (fail)
  go_wp2
  rw [rounds_succ]
  go_wp2
  go_quiet (fail)
  go_wp2
  rw [rounds_succ]
  go_wp2
  go_quiet (fail)
  go_wp2
  rw [rounds_succ]
  go_wp2
  go_ret
  exact ⟨rfl, below_drewN (hb.alloc hb.size _) _⟩

set_option maxHeartbeats 400000 in
theorem walk_lo0 (s : ByteArray) (w : World) (hs : s.size ≤ maxLen) (h3 : 3 ≤ s.size) (hm : s.size ≤ 1024) (h0 : (s[0].toNat : Int) < 28) :
    Calls Yba.prog 4 #[.string s] w fun e w' => e = .returned (.bool true) ∧ Below w.heap.size w w' := by
  go_enter Yba.func4, Yba.ntmps4
  go_wp2_with (go_at_call 6; refine (mic_lo0 s _ hs h3 h0).mono ?_; rintro e w1 ⟨rfl, hb⟩)
  go_rounds 4
  go_ret
  exact ⟨rfl, hb.alloc hb.size _⟩

set_option maxHeartbeats 400000 in
theorem walk_hi0 (s : ByteArray) (w : World) (hs : s.size ≤ maxLen) (h3 : 3 ≤ s.size) (hm : s.size ≤ 1024) (h0' : 127 < (s[0].toNat : Int)) :
    Calls Yba.prog 4 #[.string s] w fun e w' => e = .returned (.bool true) ∧ Below w.heap.size w w' := by
  go_enter Yba.func4, Yba.ntmps4
  go_wp2_with (go_at_call 6; refine (mic_hi0 s _ hs h3 h0').mono ?_; rintro e w1 ⟨rfl, hb⟩)
  go_rounds 4
  go_ret
  exact ⟨rfl, hb.alloc hb.size _⟩

set_option maxHeartbeats 400000 in
theorem walk_lo1 (s : ByteArray) (w : World) (hs : s.size ≤ maxLen) (h3 : 3 ≤ s.size) (hm : s.size ≤ 1024) (h0 : 28 ≤ (s[0].toNat : Int)) (h0' : (s[0].toNat : Int) ≤ 127) (h1 : (s[1].toNat : Int) < 28) :
    Calls Yba.prog 4 #[.string s] w fun e w' => e = .returned (.bool true) ∧ Below w.heap.size w w' := by
  go_enter Yba.func4, Yba.ntmps4
  go_wp2_with (go_at_call 6; refine (mic_lo1 s _ hs h3 h0 h0' h1).mono ?_; rintro e w1 ⟨rfl, hb⟩)
  go_rounds 4
  go_ret
  exact ⟨rfl, hb.alloc hb.size _⟩

set_option maxHeartbeats 400000 in
theorem walk_hi1 (s : ByteArray) (w : World) (hs : s.size ≤ maxLen) (h3 : 3 ≤ s.size) (hm : s.size ≤ 1024) (h0 : 28 ≤ (s[0].toNat : Int)) (h0' : (s[0].toNat : Int) ≤ 127) (h1' : 127 < (s[1].toNat : Int)) :
    Calls Yba.prog 4 #[.string s] w fun e w' => e = .returned (.bool true) ∧ Below w.heap.size w w' := by
  go_enter Yba.func4, Yba.ntmps4
  go_wp2_with (go_at_call 6; refine (mic_hi1 s _ hs h3 h0 h0' h1').mono ?_; rintro e w1 ⟨rfl, hb⟩)
  go_rounds 4
  go_ret
  exact ⟨rfl, hb.alloc hb.size _⟩

set_option maxHeartbeats 400000 in
theorem walk_lo2 (s : ByteArray) (w : World) (hs : s.size ≤ maxLen) (h3 : 3 ≤ s.size) (hm : s.size ≤ 1024) (h0 : 28 ≤ (s[0].toNat : Int)) (h0' : (s[0].toNat : Int) ≤ 127) (h1 : 28 ≤ (s[1].toNat : Int)) (h1' : (s[1].toNat : Int) ≤ 127) (h2 : (s[2].toNat : Int) < 28) :
    Calls Yba.prog 4 #[.string s] w fun e w' => e = .returned (.bool true) ∧ Below w.heap.size w w' := by
  go_enter Yba.func4, Yba.ntmps4
  go_wp2_with (go_at_call 6; refine (mic_lo2 s _ hs h3 h0 h0' h1 h1' h2).mono ?_; rintro e w1 ⟨rfl, hb⟩)
  go_rounds 4
  go_ret
  exact ⟨rfl, hb.alloc hb.size _⟩

set_option maxHeartbeats 400000 in
theorem walk_hi2 (s : ByteArray) (w : World) (hs : s.size ≤ maxLen) (h3 : 3 ≤ s.size) (hm : s.size ≤ 1024) (h0 : 28 ≤ (s[0].toNat : Int)) (h0' : (s[0].toNat : Int) ≤ 127) (h1 : 28 ≤ (s[1].toNat : Int)) (h1' : (s[1].toNat : Int) ≤ 127) (h2' : 127 < (s[2].toNat : Int)) :
    Calls Yba.prog 4 #[.string s] w fun e w' => e = .returned (.bool true) ∧ Below w.heap.size w w' := by
  go_enter Yba.func4, Yba.ntmps4
  go_wp2_with (go_at_call 6; refine (mic_hi2 s _ hs h3 h0 h0' h1 h1' h2').mono ?_; rintro e w1 ⟨rfl, hb⟩)
  go_rounds 4
  go_ret
  exact ⟨rfl, hb.alloc hb.size _⟩

theorem walk_out (s : ByteArray) (w : World) (hs : s.size ≤ maxLen) (h : s.size < 3 ∨ 1024 < s.size) :
    Calls Yba.prog 4 #[.string s] w fun e w' => e = .returned (.bool true) ∧ Below w.heap.size w w' := by
  unfold maxLen at hs
  rcases h with h | h
  · go_enter Yba.func4, Yba.ntmps4
    go_wp2
    go_ret
    exact ⟨rfl, Below.refl _ _⟩
  · have h' : 3 ≤ s.size := by omega
    go_enter Yba.func4, Yba.ntmps4
    go_wp2
    go_ret
    exact ⟨rfl, Below.refl _ _⟩

theorem walk (s : ByteArray) (hs : s.size ≤ maxLen) (w : World) :
    Calls Yba.prog 4 #[.string s] w fun e w' => e = .returned (.bool true) ∧ Below w.heap.size w w' := by
  by_cases h3 : s.size < 3
  · exact walk_out s w hs (.inl h3)
  by_cases hm : 1024 < s.size
  · exact walk_out s w hs (.inr hm)
  have h3' : 3 ≤ s.size := by omega
  have hm' : s.size ≤ 1024 := by omega
  by_cases a0 : (s[0].toNat : Int) < 28
  · exact walk_lo0 s w hs h3' hm' a0
  by_cases b0 : 127 < (s[0].toNat : Int)
  · exact walk_hi0 s w hs h3' hm' b0
  have a0' : 28 ≤ (s[0].toNat : Int) := by omega
  have b0' : (s[0].toNat : Int) ≤ 127 := by omega
  by_cases a1 : (s[1].toNat : Int) < 28
  · exact walk_lo1 s w hs h3' hm' a0' b0' a1
  by_cases b1 : 127 < (s[1].toNat : Int)
  · exact walk_hi1 s w hs h3' hm' a0' b0' b1
  have a1' : 28 ≤ (s[1].toNat : Int) := by omega
  have b1' : (s[1].toNat : Int) ≤ 127 := by omega
  by_cases a2 : (s[2].toNat : Int) < 28
  · exact walk_lo2 s w hs h3' hm' a0' b0' a1' b1' a2
  by_cases b2 : 127 < (s[2].toNat : Int)
  · exact walk_hi2 s w hs h3' hm' a0' b0' a1' b1' b2
  exact walk_ok s w hs h3' hm' a0' b0' a1' b1' (by omega) (by omega)

/-! ### THE ROW's STEP: WRITTEN OUT: LEAVE IT -/
set_option maxRecDepth 100000 in
theorem lifted (os : Os) (started : os.Started) (H : Type) (enc : TypeId × Value → H) :
    ReturnsInHanded {} Yba.checked os 4 .any (Rows.lawS3194ARoundTripSpec.pre6 enc Yba.prog Yba.f4 Rows.lawS3194ARoundTripRow.domain false) (Rows.lawS3194ARoundTripSpec.post enc Yba.prog Yba.f4 false true false false) := by
  refine returnsInHanded_of_change (C := Yba.checked) own started (by kernel_rfl) Yba.func4
    (ChangeSpec.witness6 (enc := enc) (C := Yba.checked) false ⟨#[], #[.string ByteArray.empty], []⟩ 8 (by kernel_rfl) (by kernel_rfl) (by kernel_rfl) (by kernel_rfl)) ?_
  intro W base args ds gs before hval0 hW hcnd _
  have hval : ∀ (j : Nat) t v, Yba.f4.params[j]? = some t → args[j]? = some v → Value.okWide Yba.prog W .any base t v := hval0
  have hW' := hW
  obtain ⟨p, q, hA0, hV, rfl, hfz, hnd⟩ := hW
  have hA : DataW.TrodAll enc Yba.prog W 0 (fun _ => true) true Yba.f4.params.toList args.toList ds p := hA0
  rw [Yba.params4] at hA hval
  obtain ⟨v0, vs0, d0, ds0, p0, q0, hargs, rfl, rfl, h0, r0⟩ := trodAll_cons hA
  obtain ⟨rfl, rfl, rfl⟩ := trodAll_nil r0
  obtain rfl : args = #[v0] := by cases args; simp_all
  obtain ⟨rfl, rfl⟩ := trodVars_none hV
  obtain ⟨a0, rfl, rfl, rfl, w0⟩ := open_string Yba.underlying9 (hval 0 9 v0 rfl rfl) h0
  clear hA0 hval0
  simp only [List.append_nil] at hW'
  refine (walk a0 w0 W).mono fun e W' ⟨he, bel⟩ => ?_
  subst he
  exact ⟨_, rfl, _, _, _, [], _, [], hW', trodAll_mk1 (shut_bool Yba.underlying4 _), (trodAll_cons_mk (shut_string Yba.underlying9 w0) trodAll_mk0), rfl, bel.frame _, fun h => by cases h⟩

theorem over : Rows.lawS3194ARoundTripRow.holds Yba.pinned (OpenSpec.ofChange Rows.lawS3194ARoundTripSpec) :=
  OpenClaim.holds_of_wide 4 Yba.f4 rfl rfl rfl rfl rfl rfl rfl ⟨rfl, rfl, rfl, rfl, rfl⟩ rfl rfl rfl rfl rfl (by kernel_rfl) Yba.func4 (by kernel_rfl)
    (of_decide_eq_true (by kernel_rfl)) (by unfold Func.isWrapper; first | (rw [if_pos (by decide +kernel)]; kernel_rfl) | (rw [if_neg (by decide +kernel)]; exact ⟨rfl, rfl⟩))
    (fun os started H enc _ => lifted os started H enc)

/-- ████ THE STATEMENT ████ -/
theorem proved : Rows.LawS3194ARoundTripSaid :=
  over
#print axioms proved
end Go.Proofs.Ybulkbncw.lawS3194ARoundTrip
