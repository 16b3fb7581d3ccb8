/-
  THE PROOF OF 'Rows.LawS3194AExactSaid'. The frame is the guide's shell at this function (the closing line goes by 'Below'); the walks are this seat's.
-/
import Derived.Test.YbulkbncwMic
import Derived.WalkKit
import Derived.ProofKit
import Derived.OpenShut
import Derived.ShutString
import Derived.Laws.StructEq
import Derived.Laws.IdiomStrings
import Derived.WalkSmall
namespace Go.Proofs.Ybulkbncw.lawS3194AExact
open Go.ChangeShapes Go.WideShapes Go.ChangeAt Go.RowKit
open Go.ChangeMaps (open_string shut_string)
open Go.Proofs.Ybulkbncw.mic
set_option linter.unusedVariables false      -- a walk need not use every 'w<i>' (that an integer argument fits its kind)

theorem own : ownKnob Yba.prog.godebug = none := by kernel_rfl


theorem size3 (w : World) : (sizeOf 3).run Yba.prog w = .ok 1 w := by
  have h : (Yba.prog.info? 3).map (fun i => (i.zero, i.size, i.bytes)) = some (some (.int .i64 0), 1, 8) := by kernel_rfl
  obtain ⟨i, hi, _, hz, _⟩ := info_parts h
  simp [sizeOf, typeInfo, hi, hz]

theorem part3 (w : World) (xs : Array Value) (j : Nat) (v : Value) (h : xs[j]? = some v) : (part 3 xs j).run Yba.prog w = .ok v w := by
  simp [part, h]

theorem run_equalIn3 (w : World) (d : Nat) (a b c : Int) :
    (Op.equalIn (d + 2) 25 (.agg #[.int .i64 a, .int .i64 b, .int .i64 c]) (.agg #[.int .i64 a, .int .i64 b, .int .i64 c])).run Yba.prog w = .ok true w := by
  rw [show d + 2 = (d + 1) + 1 from rfl, Op.equalIn]
  simp only [Sem.run_bind, run_underlying Yba.underlying25, size3, Result.andThen_ok]
  simp [Std.Legacy.Range.forIn_eq_forIn_range', Std.Legacy.Range.size, List.range', part3, Sem.run_bind, run_equalIn_int _ _ _ _ _ _ _ Yba.underlying3]

theorem run_eql3 (w : World) (a b c : Int) :
    (binOp .eql 25 (.agg #[.int .i64 a, .int .i64 b, .int .i64 c]) (.agg #[.int .i64 a, .int .i64 b, .int .i64 c])).run Yba.prog w = .ok (.bool true) w := by
  rw [run_eql_struct, run_equalIn3 w 9998 a b c]; rfl


theorem byte_any (x : Int) (raw : Bool) (hx : (Lit.int .u8 x).wf = true) (w : World) :
    Calls Yba.prog 5 #[.int .u8 x, .bool raw] w fun e w' => ∃ u : UInt8, e = .returned (.int .u8 (u.toNat : Int)) ∧ w' = w := by
  have hb : 0 ≤ x ∧ x ≤ 255 := by simpa [Lit.wf, IntKind.bits, IntKind.signed, IntKind.min, IntKind.max] using hx
  obtain ⟨h0, h1⟩ := hb
  cases raw with
  | true =>
    go_enter Yba.func5, Yba.ntmps5
    go_wp2
    go_ret
    refine ⟨UInt8.ofNat x.toNat, ?_, rfl⟩
    have : (UInt8.ofNat x.toNat).toNat = x.toNat := by simp; omega
    rw [this, Int.toNat_of_nonneg h0]
    rfl
  | false =>
    go_enter Yba.func5, Yba.ntmps5
    go_wp2
    go_ret
    refine ⟨UInt8.ofNat (26 + x % 104).toNat, ?_, rfl⟩
    have : (UInt8.ofNat (26 + x % 104).toNat).toNat = (26 + x % 104).toNat := by simp; omega
    rw [this, Int.toNat_of_nonneg (by omega)]
    rfl

theorem text_size (u0 u1 u2 : UInt8) (t : ByteArray) : ((⟨#[u0, u1, u2]⟩ : ByteArray) ++ t).size = 3 + t.size := by
  rw [ByteArray.size_append]; rfl
theorem text_0 (u0 u1 u2 : UInt8) (t : ByteArray) (h : 0 < ((⟨#[u0, u1, u2]⟩ : ByteArray) ++ t).size) : ((⟨#[u0, u1, u2]⟩ : ByteArray) ++ t)[0] = u0 := by
  rw [ByteArray.getElem_append_left (by show _ < 3; decide)]; rfl
theorem text_1 (u0 u1 u2 : UInt8) (t : ByteArray) (h : 1 < ((⟨#[u0, u1, u2]⟩ : ByteArray) ++ t).size) : ((⟨#[u0, u1, u2]⟩ : ByteArray) ++ t)[1] = u1 := by
  rw [ByteArray.getElem_append_left (by show _ < 3; decide)]; rfl
theorem text_2 (u0 u1 u2 : UInt8) (t : ByteArray) (h : 2 < ((⟨#[u0, u1, u2]⟩ : ByteArray) ++ t).size) : ((⟨#[u0, u1, u2]⟩ : ByteArray) ++ t)[2] = u2 := by
  rw [ByteArray.getElem_append_left (by show _ < 3; decide)]; rfl

theorem conv3 (w : World) (b : Nat) (u0 u1 u2 : UInt8) (h0 : w.cell? ⟨b, 0, none⟩ = some (.int .u8 (u0.toNat : Int))) (h1 : w.cell? ⟨b, 1, none⟩ = some (.int .u8 (u1.toNat : Int))) (h2 : w.cell? ⟨b, 2, none⟩ = some (.int .u8 (u2.toNat : Int))) :
    (convert 24 9 (.slice (some ⟨b, 0, none⟩) 3 3)).run Yba.prog w = .ok (.string ⟨#[u0, u1, u2]⟩) w := by
  refine run_convert_bytes_back w 24 9 5 ⟨b, 0, none⟩ 3 [u0, u1, u2] Yba.underlying24 Yba.underlying5 Yba.underlying9 fun j hj => ?_
  match j, hj with
  | 0, _ => exact h0
  | 1, _ => exact h1
  | 2, _ => exact h2

theorem mic_text (u0 u1 u2 : UInt8) (t : ByteArray) (ht : t.size ≤ 1024) (w : World) :
    Calls Yba.prog 6 #[.string ((⟨#[u0, u1, u2]⟩ : ByteArray) ++ t)] w fun e w' => ∃ x y z ok, e = .returned (.tuple #[.agg #[.int .i64 x, .int .i64 y, .int .i64 z], .bool ok]) ∧ Ways (u0.toNat : Int) (u1.toNat : Int) (u2.toNat : Int) x y z ok ∧ Below w.heap.size w w' := by
  have hz := text_size u0 u1 u2 t
  have h := mic ((⟨#[u0, u1, u2]⟩ : ByteArray) ++ t) w (by unfold maxLen; omega) (by omega)
  rw [text_0, text_1, text_2] at h
  exact h

theorem bcell {W w1 : World} (hb : Below W.heap.size W w1) : (∀ b o, b < W.heap.size → w1.cell? ⟨b, o, none⟩ = W.cell? ⟨b, o, none⟩) ∧ (∀ b o, b < W.heap.size → w1.frozen? ⟨b, o, none⟩ = W.frozen? ⟨b, o, none⟩) :=
  ⟨fun b o h => hb.cell (p := ⟨b, o, none⟩) h, fun b o h => hb.frozen (p := ⟨b, o, none⟩) h⟩

set_option maxHeartbeats 1000000 in
theorem walk_all (a0 a1 a2 : Int) (a3 : Bool) (t : ByteArray) (w0 : (Lit.int .u8 a0).wf = true) (w1 : (Lit.int .u8 a1).wf = true) (w2 : (Lit.int .u8 a2).wf = true) (ht : t.size ≤ 1024) (w : World) :
    Calls Yba.prog 3 #[.int .u8 a0, .int .u8 a1, .int .u8 a2, .bool a3, .string t] w fun e w' => e = .returned (.bool true) ∧ Below w.heap.size w w' := by
  go_enter Yba.func3, Yba.ntmps3
  go_wp2_with fail
  refine (byte_any a0 a3 w0 _).mono ?_
  rintro e w' ⟨u0, rfl, rfl⟩
  go_wp2_with fail
  refine (byte_any a1 a3 w1 _).mono ?_
  rintro e w' ⟨u1, rfl, rfl⟩
  go_wp2_with fail
  refine (byte_any a2 a3 w2 _).mono ?_
  rintro e w' ⟨u2, rfl, rfl⟩
  have hc := conv3 (w'.alloc (.cells #[.int .u8 (u0.toNat : Int), .int .u8 (u1.toNat : Int), .int .u8 (u2.toNat : Int)] 23)) w'.heap.size u0 u1 u2 (by simp) (by simp) (by simp)
  go_wp2_with fail
  refine (mic_text u0 u1 u2 t ht _).mono ?_
  rintro e w1 ⟨x, y, z, ok, rfl, hway, hb⟩
  have c0 : w1.cell? ⟨w'.heap.size, 0, none⟩ = some (.int .u8 (u0.toNat : Int)) := by rw [hb.cell (by simp)]; simp
  have c1 : w1.cell? ⟨w'.heap.size, 1, none⟩ = some (.int .u8 (u1.toNat : Int)) := by rw [hb.cell (by simp)]; simp
  have c2 : w1.cell? ⟨w'.heap.size, 2, none⟩ = some (.int .u8 (u2.toNat : Int)) := by rw [hb.cell (by simp)]; simp
  have hz : w'.heap.size < w1.heap.size := by have := hb.size; simp at this; omega
  have hB : Below w'.heap.size w' w1 := ((Below.refl _ _).alloc (Nat.le_refl _) _).trans (hb.mono (by simp))
  clear hc hb
  obtain ⟨n0, hn0⟩ : ∃ n : Nat, n = u0.toNat := ⟨_, rfl⟩
  obtain ⟨n1, hn1⟩ : ∃ n : Nat, n = u1.toNat := ⟨_, rfl⟩
  obtain ⟨n2, hn2⟩ : ∃ n : Nat, n = u2.toNat := ⟨_, rfl⟩
  rw [← hn0] at c0 hway
  rw [← hn1] at c1 hway
  rw [← hn2] at c2 hway
  have hb0 : n0 < 256 := by have := u0.toNat_lt; omega
  have hb1 : n1 < 256 := by have := u1.toNat_lt; omega
  have hb2 : n2 < 256 := by have := u2.toNat_lt; omega
  clear hn0 hn1 hn2
  have heq := fun (w : World) (a b c : Int) => run_eql3 w a b c
  rcases hway with ⟨r0, rfl, rfl, rfl, rfl⟩ | ⟨⟨l0, l0'⟩, r1, rfl, rfl, rfl, rfl⟩ | ⟨⟨l0, l0'⟩, ⟨l1, l1'⟩, r2, rfl, rfl, rfl, rfl⟩ | ⟨⟨l0, l0'⟩, ⟨l1, l1'⟩, ⟨l2, l2'⟩, rfl, rfl, rfl, rfl⟩
  · by_cases q : (n0 : Int) < 28
    · clear r0
      go_wp2
      go_rounds 4
      go_ret
      exact ⟨rfl, by go_grown⟩
    · have q' : 127 < (n0 : Int) := by
        rcases Int.lt_or_le 127 (n0 : Int) with h | h
        · exact h
        · exact absurd ⟨by omega, h⟩ r0
      clear r0
      go_wp2
      go_rounds 4
      go_ret
      exact ⟨rfl, by go_grown⟩
  · by_cases q : (n1 : Int) < 28
    · clear r1
      go_wp2
      go_rounds 4
      go_ret
      exact ⟨rfl, by go_grown⟩
    · have q' : 127 < (n1 : Int) := by
        rcases Int.lt_or_le 127 (n1 : Int) with h | h
        · exact h
        · exact absurd ⟨by omega, h⟩ r1
      clear r1
      go_wp2
      go_rounds 4
      go_ret
      exact ⟨rfl, by go_grown⟩
  · by_cases q : (n2 : Int) < 28
    · clear r2
      go_wp2
      go_rounds 4
      go_ret
      exact ⟨rfl, by go_grown⟩
    · have q' : 127 < (n2 : Int) := by
        rcases Int.lt_or_le 127 (n2 : Int) with h | h
        · exact h
        · exact absurd ⟨by omega, h⟩ r2
      clear r2
      go_wp2
      go_rounds 4
      go_ret
      exact ⟨rfl, by go_grown⟩
  · go_wp2
    go_rounds 4
    go_ret
    exact ⟨rfl, by go_grown⟩

theorem walk_long (a0 a1 a2 : Int) (a3 : Bool) (t : ByteArray) (ht0 : t.size ≤ maxLen) (ht : 1024 < t.size) (w : World) :
    Calls Yba.prog 3 #[.int .u8 a0, .int .u8 a1, .int .u8 a2, .bool a3, .string t] w fun e w' => e = .returned (.bool true) ∧ Below w.heap.size w w' := by
  unfold maxLen at ht0
  go_enter Yba.func3, Yba.ntmps3
  go_wp2_with fail
  go_ret
  exact ⟨rfl, Below.refl _ _⟩

theorem walk (a0 : Int) (a1 : Int) (a2 : Int) (a3 : Bool) (a4 : ByteArray) (w0 : (Lit.int .u8 a0).wf = true) (w1 : (Lit.int .u8 a1).wf = true) (w2 : (Lit.int .u8 a2).wf = true) (w4 : a4.size ≤ maxLen) (w : World) :
    Calls Yba.prog 3 #[.int .u8 a0, .int .u8 a1, .int .u8 a2, .bool a3, .string a4] w fun e w' => e = .returned (.bool true) ∧ Below w.heap.size w w' := by
  by_cases h : a4.size ≤ 1024
  · exact walk_all a0 a1 a2 a3 a4 w0 w1 w2 h w
  · exact walk_long a0 a1 a2 a3 a4 w4 (by omega) w

/-! ### THE ROW's STEP: WRITTEN OUT: LEAVE IT -/
set_option maxRecDepth 100000 in
theorem lifted (os : Os) (started : os.Started) (H : Type) (enc : TypeId × Value → H) :
    ReturnsInHanded {} Yba.checked os 3 .any (Rows.lawS3194AExactSpec.pre6 enc Yba.prog Yba.f3 Rows.lawS3194AExactRow.domain false) (Rows.lawS3194AExactSpec.post enc Yba.prog Yba.f3 false true false false) := by
  refine returnsInHanded_of_change (C := Yba.checked) own started (by kernel_rfl) Yba.func3
    (ChangeSpec.witness6 (enc := enc) (C := Yba.checked) false ⟨#[], #[.int .u8 0, .int .u8 0, .int .u8 0, .bool false, .string ByteArray.empty], []⟩ 8 (by kernel_rfl) (by kernel_rfl) (by kernel_rfl) (by kernel_rfl)) ?_
  intro W base args ds gs before hval0 hW hcnd _
  have hval : ∀ (j : Nat) t v, Yba.f3.params[j]? = some t → args[j]? = some v → Value.okWide Yba.prog W .any base t v := hval0
  have hW' := hW
  obtain ⟨p, q, hA0, hV, rfl, hfz, hnd⟩ := hW
  have hA : DataW.TrodAll enc Yba.prog W 0 (fun _ => true) true Yba.f3.params.toList args.toList ds p := hA0
  rw [Yba.params3] at hA hval
  obtain ⟨v0, vs0, d0, ds0, p0, q0, hargs, rfl, rfl, h0, r0⟩ := trodAll_cons hA
  obtain ⟨v1, vs1, d1, ds1, p1, q1, rfl, rfl, rfl, h1, r1⟩ := trodAll_cons r0
  obtain ⟨v2, vs2, d2, ds2, p2, q2, rfl, rfl, rfl, h2, r2⟩ := trodAll_cons r1
  obtain ⟨v3, vs3, d3, ds3, p3, q3, rfl, rfl, rfl, h3, r3⟩ := trodAll_cons r2
  obtain ⟨v4, vs4, d4, ds4, p4, q4, rfl, rfl, rfl, h4, r4⟩ := trodAll_cons r3
  obtain ⟨rfl, rfl, rfl⟩ := trodAll_nil r4
  obtain rfl : args = #[v0, v1, v2, v3, v4] := by cases args; simp_all
  obtain ⟨rfl, rfl⟩ := trodVars_none hV
  obtain ⟨a0, rfl, rfl, rfl, w0⟩ := open_int Yba.underlying5 (hval 0 5 v0 rfl rfl) h0
  obtain ⟨a1, rfl, rfl, rfl, w1⟩ := open_int Yba.underlying5 (hval 1 5 v1 rfl rfl) h1
  obtain ⟨a2, rfl, rfl, rfl, w2⟩ := open_int Yba.underlying5 (hval 2 5 v2 rfl rfl) h2
  obtain ⟨a3, rfl, rfl, rfl⟩ := open_bool Yba.underlying4 (hval 3 4 v3 rfl rfl) h3
  obtain ⟨a4, rfl, rfl, rfl, w4⟩ := open_string Yba.underlying9 (hval 4 9 v4 rfl rfl) h4
  clear hA0 hval0
  simp only [List.append_nil] at hW'
  refine (walk a0 a1 a2 a3 a4 w0 w1 w2 w4 W).mono fun e W' ⟨he, bel⟩ => ?_
  subst he
  exact ⟨_, rfl, _, _, _, [], _, [], hW', trodAll_mk1 (shut_bool Yba.underlying4 _), (trodAll_cons_mk (shut_int Yba.underlying5 w0) (trodAll_cons_mk (shut_int Yba.underlying5 w1) (trodAll_cons_mk (shut_int Yba.underlying5 w2) (trodAll_cons_mk (shut_bool Yba.underlying4 _) (trodAll_cons_mk (shut_string Yba.underlying9 w4) trodAll_mk0))))), rfl, bel.frame _, fun h => by cases h⟩

theorem over : Rows.lawS3194AExactRow.holds Yba.pinned (OpenSpec.ofChange Rows.lawS3194AExactSpec) :=
  OpenClaim.holds_of_wide 3 Yba.f3 rfl rfl rfl rfl rfl rfl rfl ⟨rfl, rfl, rfl, rfl, rfl⟩ rfl rfl rfl rfl rfl (by kernel_rfl) Yba.func3 (by kernel_rfl)
    (of_decide_eq_true (by kernel_rfl)) (by unfold Func.isWrapper; first | (rw [if_pos (by decide +kernel)]; kernel_rfl) | (rw [if_neg (by decide +kernel)]; exact ⟨rfl, rfl⟩))
    (fun os started H enc _ => lifted os started H enc)

/-- ████ THE STATEMENT ████ -/
theorem proved : Rows.LawS3194AExactSaid :=
  over
#print axioms proved
end Go.Proofs.Ybulkbncw.lawS3194AExact
