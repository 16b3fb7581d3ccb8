/-
  LawS3191BGrow: the row, and its tied card.
-/
import Derived.Test.YbulkbnbgDoorRowB
import Derived.Test.YbulkbnbgDoorLawC
import Derived.Test.YbulkbnbgDoorTie
import Derived.Test.YbulkbnbgDoorCards
namespace Go.Proofs.YbulkbnbgDoor.lawS3191BGrow
open Go.ChangeShapes Go.WideShapes Go.ChangeAt Go.RowKit
open Go.Proofs.YbulkbnbgDoor.Pr

def cells64 : Array Value := (Lib.deBruijn64tab.map fun (k : Nat) => Value.int .u8 (k : Int)).toArray

set_option maxRecDepth 100000 in
set_option maxHeartbeats 2000000 in
theorem lifted (os : Os) (started : os.Started) (H : Type) (enc : TypeId × Value → H) :
    ReturnsInHanded {} Ybad.checked os 4 .any (fun w args => (Rows.lawS3191BGrowSpec.pre enc Ybad.prog Ybad.f4 [] false w args ∧ laidMetH Ybad.prog [("math/bits.deBruijn64tab", Rows.laid_math_bits_deBruijn64tab)] w) ∧ sizedMet enc Ybad.prog Ybad.f4 (OpenSpec.ofChange Rows.lawS3191BGrowSpec) false w args)
      (Rows.lawS3191BGrowSpec.post enc Ybad.prog Ybad.f4 false true false false) := by
  refine returnsInHanded_of_change_and (C := Ybad.checked) (X := fun w _ => laidMetH Ybad.prog [("math/bits.deBruijn64tab", Rows.laid_math_bits_deBruijn64tab)] w) (fun _ _ _ hh h => h.of_heap hh) own_knob started (by kernel_rfl) Ybad.func4
    (ChangeSpec.witness_at (enc := enc) (C := Ybad.checked) (os := os) (X := fun w _ => laidMetH Ybad.prog [("math/bits.deBruijn64tab", Rows.laid_math_bits_deBruijn64tab)] w) false ({ World.holding Ybad.prog os ⟨#[], #[], []⟩ with heap := (World.holding Ybad.prog os ⟨#[], #[], []⟩).heap.modify 0 fun | .cells _ t frozen => .cells cells64 t frozen | o => o }) #[.int .u8 0, .slice none 0 0, .slice none 0 0] 8 rfl (by kernel_rfl) (by kernel_rfl) (by kernel_rfl) (by kernel_rfl) (by kernel_rfl)
      (laidMet_of_run' (l := [("math/bits.deBruijn64tab", Rows.laid_math_bits_deBruijn64tab)]) 8 (by kernel_rfl) (by kernel_rfl))) ?_
  intro W base args ds gs before hval0 hW _ _ hL _
  have hval : ∀ (j : Nat) t v, Ybad.f4.params[j]? = some t → args[j]? = some v → Value.okWide Ybad.prog W .any base t v := hval0
  have hW' := hW
  obtain ⟨p, q, hA0, hV0, rfl, hfz, hnd⟩ := hW
  have hA : DataW.TrodAll enc Ybad.prog W 0 (fun _ => true) true Ybad.f4.params.toList args.toList ds p := hA0
  have hV : DataW.TrodVars enc Ybad.prog W (fun _ => true) [] gs q := hV0
  rw [Ybad.params4] at hA hval
  obtain ⟨v0, vs0, d0, ds0, p0, q0, hargs, rfl, rfl, h0, r0⟩ := trodAll_cons hA
  obtain ⟨v1, vs1, d1, ds1, p1, q1, rfl, rfl, rfl, h1, r1⟩ := trodAll_cons r0
  obtain ⟨v2, vs2, d2, ds2, p2, q2, rfl, rfl, rfl, h2, r2⟩ := trodAll_cons r1
  obtain ⟨rfl, rfl, rfl⟩ := trodAll_nil r2
  obtain rfl : args = #[v0, v1, v2] := by cases args; simp_all
  obtain ⟨rfl, rfl⟩ := trodVars_none hV
  obtain ⟨a0, rfl, rfl, rfl, w0⟩ := open_int Ybad.underlying5 (hval 0 5 v0 rfl rfl) h0
  obtain ⟨a1, len1, cap1, rfl⟩ := okWide_slice Ybad.underlying22 (hval 1 22 v1 rfl rfl)
  have k1 := h1
  have lt1 : ∀ x ∈ p1, x.block < W.heap.size := by obtain ⟨m, hm⟩ := k1; exact DataW.trod_lt m _ _ _ hm
  obtain ⟨a2, len2, cap2, rfl⟩ := okWide_slice Ybad.underlying22 (hval 2 22 v2 rfl rfl)
  have k2 := h2
  have lt2 : ∀ x ∈ p2, x.block < W.heap.size := by obtain ⟨m, hm⟩ := k2; exact DataW.trod_lt m _ _ _ hm
  obtain ⟨x2, y2, hsrc2⟩ : ∃ x y, Src2 (fun k => W.heap.size ≤ k) W a2 len2 x y := by
    obtain ⟨fuel, hf⟩ := h2
    exact src2_of hf
  have htab : Tab W := tab_of_laid hL
  obtain ⟨x, y, hsrc⟩ : ∃ x y, Src2 (fun k => W.heap.size ≤ k) W a1 len1 x y := by
    obtain ⟨fuel, hf⟩ := h1
    exact src2_of hf
  have hb0 := bounds_u8 w0
  obtain ⟨N, rfl⟩ : ∃ N : Nat, a0 = (N : Int) := ⟨a0.toNat, by omega⟩
  clear hA0 hval0 hL
  refine (law4 N a1 len1 cap1 x y a2 len2 cap2 x2 y2 W htab hsrc hsrc2).mono fun e W' ⟨he, hK⟩ => ?_
  subst he
  have bel : Below W.heap.size W W' := hK.below (fun _ h => h.elim) (Nat.le_refl _)
  exact ⟨_, rfl, _, _, _, [], _, [], hW', trodAll_mk1 (shut_bool Ybad.underlying4 _), (trodAll_cons_mk (shut_int Ybad.underlying5 w0) (trodAll_cons_mk (Below.trod laid_out (by kernel_rfl) (of_decide_eq_true (by kernel_rfl)) k1 bel lt1) (trodAll_cons_mk (Below.trod laid_out (by kernel_rfl) (of_decide_eq_true (by kernel_rfl)) k2 bel lt2) trodAll_mk0))), rfl, bel.frame _, fun h => by cases h⟩

theorem over : Rows.LawS3191BGrowSaid :=
  OpenClaim.holds_of_wide 4 Ybad.f4 rfl rfl rfl rfl rfl rfl rfl ⟨rfl, rfl, rfl, rfl, rfl⟩ rfl rfl rfl rfl rfl (by kernel_rfl) Ybad.func4 (by kernel_rfl)
    (of_decide_eq_true (by kernel_rfl)) (by unfold Func.isWrapper; first | (rw [if_pos (by decide +kernel)]; kernel_rfl) | (rw [if_neg (by decide +kernel)]; exact ⟨rfl, rfl⟩))
    (fun os started H enc _ => lifted os started H enc)

/-- THE TIED CARD. -/
theorem proved : Rows.LawS3191BGrowCardSaid :=
  Claim7.holds_tied_plain_at .later [] [.data] true (true, "10ac75f0cffcca7f97c7bf6796339c057d41075b605bd6f8425da316ba49e376") false
    over (fun _ h => by cases h) (by kernel_rfl) (fun _ h => by cases h) lawS3191BGrow_row_tie rfl ⟨rfl, rfl⟩ (by kernel_rfl) rfl
    (fun f fn hf hfn => by
      obtain rfl : f = 4 := Option.some.inj ((show Ybad.prog.funcNamed "example.com/versigraph/versigraph.LawS3191BGrow" = some 4 by kernel_rfl).symm.trans hf) |>.symm
      obtain rfl : fn = Ybad.f4 := (Option.some.inj (Ybad.func4.symm.trans hfn)).symm
      exact ⟨by kernel_rfl, fun j t ht => by
        rw [Ybad.params4] at ht
        rcases j with _ | _ | _ | j
        · obtain rfl : t = 5 := by simpa using ht.symm
          exact (show Ybad.prog.wantsStandIn 5 = false by kernel_rfl)
        · obtain rfl : t = 22 := by simpa using ht.symm
          exact (show Ybad.prog.wantsStandIn 22 = false by kernel_rfl)
        · obtain rfl : t = 22 := by simpa using ht.symm
          exact (show Ybad.prog.wantsStandIn 22 = false by kernel_rfl)
        · simp at ht⟩)
    (by kernel_rfl)
#print axioms proved
end Go.Proofs.YbulkbnbgDoor.lawS3191BGrow
