/-
  LawS3195AAnnounce: the row, and its tied card.
-/
import Derived.Test.YbulkbndkDoorRowB
import Derived.Test.YbulkbndkDoorTie
import Derived.Test.YbulkbndkDoorCards
import Derived.ChangeSame
import Derived.ChangeVars
import Derived.JoinedOf
import Derived.RowKit
import Derived.LaidLaws
namespace Go.Proofs.YbulkbndkDoor.lawS3195AAnnounce
open Go.ChangeShapes Go.WideShapes Go.ChangeAt Go.RowKit
open Go.Proofs.YbulkbndkDoor.Pr

theorem own_knob : ownKnob Ybad.prog.godebug = none := by kernel_rfl
theorem laid_out : laidOutB Ybad.prog = true := by kernel_rfl

theorem door_met (os : Os) (args : Array Value) : laidMetH Ybad.prog laidL ((World.doorLaid Ybad.prog 400 os).forCall (fun _ _ => 0) ⟨#[], args, []⟩).memory :=
  laidMetH_of_parts3 (fuel := 8) (laidMet_of_run' 8 (by kernel_rfl) (by kernel_rfl)) (by kernel_rfl) (by kernel_rfl)

set_option maxRecDepth 100000 in
set_option maxHeartbeats 2000000 in
theorem lifted (os : Os) (started : os.Started) (H : Type) (enc : TypeId × Value → H) :
    ReturnsInHanded {} Ybad.checked os 3 .any (fun w args => (Rows.lawS3195AAnnounceSpec.pre enc Ybad.prog Ybad.f3 [] false w args ∧ laidMetH Ybad.prog laidL w) ∧ sizedMet enc Ybad.prog Ybad.f3 (OpenSpec.ofChange Rows.lawS3195AAnnounceSpec) false w args)
      (Rows.lawS3195AAnnounceSpec.post enc Ybad.prog Ybad.f3 false true false false) := by
  refine returnsInHanded_of_change_and (C := Ybad.checked) (X := fun w _ => laidMetH Ybad.prog laidL w) (fun _ _ _ hh h => h.of_heap hh) own_knob started (by kernel_rfl) Ybad.func3
    (ChangeSpec.witness_shaped (enc := enc) (C := Ybad.checked) (os := os) (X := fun w _ => laidMetH Ybad.prog laidL w) false (World.doorLaid Ybad.prog 400 os) #[.slice none 0 0, .slice none 0 0, .slice none 0 0] 8 rfl (World.shaped_of_RefB (by kernel_rfl) (by kernel_rfl)) (by kernel_rfl) (by kernel_rfl) (by kernel_rfl) (door_met os _)) ?_
  intro W base args ds gs before hval0 hW _ _ hL _
  have hval : ∀ (j : Nat) t v, Ybad.f3.params[j]? = some t → args[j]? = some v → Value.okWide Ybad.prog W .any base t v := hval0
  have hW' := hW
  obtain ⟨p, q, hA0, hV0, rfl, hfz, hnd⟩ := hW
  have hA : DataW.TrodAll enc Ybad.prog W 0 (fun _ => true) true Ybad.f3.params.toList args.toList ds p := hA0
  have hV : DataW.TrodVars enc Ybad.prog W (fun _ => true) ["example.com/signalweft/signalweft.asStateStatus"] gs q := hV0
  rw [Ybad.params3] at hA hval
  obtain ⟨v0, vs0, d0, ds0, p0, q0, hargs, rfl, rfl, h0, r0⟩ := trodAll_cons hA
  obtain ⟨v1, vs1, d1, ds1, p1, q1, rfl, rfl, rfl, h1, r1⟩ := trodAll_cons r0
  obtain ⟨v2, vs2, d2, ds2, p2, q2, rfl, rfl, rfl, h2, r2⟩ := trodAll_cons r1
  obtain ⟨rfl, rfl, rfl⟩ := trodAll_nil r2
  obtain rfl : args = #[v0, v1, v2] := by cases args; simp_all
  obtain ⟨a0, len0, cap0, rfl⟩ := okWide_slice Ybad.underlying22 (hval 0 22 v0 rfl rfl)
  obtain ⟨a1, len1, cap1, rfl⟩ := okWide_slice Ybad.underlying23 (hval 1 23 v1 rfl rfl)
  obtain ⟨a2, len2, cap2, rfl⟩ := okWide_slice Ybad.underlying23 (hval 2 23 v2 rfl rfl)
  obtain ⟨g, t, cs, fv, d, pg, rfl, hg, ht, hvar, hd, rfl⟩ := trodVars_one hV
  obtain rfl := Option.some.inj (gTab.symm.trans hg)
  obtain rfl := Option.some.inj (tTab.symm.trans ht)
  have k0 := h0
  have k1 := h1
  have k2 := h2
  have lt0 : ∀ x ∈ p0, x.block < W.heap.size := by obtain ⟨m, hm⟩ := k0; exact DataW.trod_lt m _ _ _ hm
  have lt1 : ∀ x ∈ p1, x.block < W.heap.size := by obtain ⟨m, hm⟩ := k1; exact DataW.trod_lt m _ _ _ hm
  have lt2 : ∀ x ∈ p2, x.block < W.heap.size := by obtain ⟨m, hm⟩ := k2; exact DataW.trod_lt m _ _ _ hm
  have ltg : ∀ x ∈ pg, x.block < W.heap.size := DataW.trod_lt fv _ _ _ hd
  obtain ⟨gm, es, cl, hGlob⟩ := glob_of_laid hL
  obtain ⟨SV, ma, mc, hInp, hV1, hV2⟩ : ∃ SV ma mc, Inp W.heap.size len0 SV a0 ma mc W ∧ (∀ i, (SV i).rc < 4294967296 ∧ (SV i).st < 256 ∧ (∀ m ∈ (SV i).ms, m < 256) ∧ ∀ j, (SV i).ss j < 256) ∧ ∀ i, len0 ≤ i → (SV i).ms = [] := by
    obtain ⟨fuel, hf⟩ := h0
    exact inp_of hf
  obtain ⟨xs, hxl, hxb, hxs⟩ : ∃ xs : List Nat, xs.length = len1 ∧ (∀ x ∈ xs, x < 256) ∧ Src1 W.heap.size W a1 xs := by
    obtain ⟨fuel, hf⟩ := h1
    exact src1_of hf
  obtain ⟨ys, hyl, hyb, hys⟩ : ∃ xs : List Nat, xs.length = len2 ∧ (∀ x ∈ xs, x < 256) ∧ Src1 W.heap.size W a2 xs := by
    obtain ⟨fuel, hf⟩ := h2
    exact src1_of hf
  clear hA0 hval0 hL hV0
  subst hxl
  subst hyl
  refine (law3 a0 a1 a2 len0 cap0 cap1 cap2 xs ys hxb hyb SV ma mc hV1 hV2 gm cl es W hInp hxs hys hGlob).mono fun e W' ⟨he, bel⟩ => ?_
  subst he
  have hcs : cs = #[.map (some gm)] := by
    have h := World.var?_cell hg hvar 0
    rw [hGlob.cell] at h
    rcases Go.WideElems.open_map Ybad.underlying170 hd with ⟨hc, _⟩ | ⟨bm, _, _, _, _, hc, _⟩
    · rw [Array.eq_one_of_toList hc] at h
      simp at h
    · rw [Array.eq_one_of_toList hc] at h ⊢
      simp at h
      rw [h]
  subst hcs
  have kg : DataW.Trod enc Ybad.prog W 0 (fun _ => true) true 170 (.map (some gm)) d pg := ⟨fv, hd⟩
  obtain ⟨fv', hd'⟩ := Below.trod laid_out (by kernel_rfl) (of_decide_eq_true (by kernel_rfl)) kg bel ltg
  have hvar' : W'.var? Ybad.prog "example.com/signalweft/signalweft.asStateStatus" = some #[.map (some gm)] := by
    have hlt : 0 < W.heap.size := by have := World.block_lt_of_cell? W _ hGlob.cell; simp at this; omega
    have hb := bel.block 0 hlt
    simp only [World.var?, hg, Option.bind_some] at hvar ⊢
    rw [hb]
    exact hvar
  exact ⟨_, rfl, _, _, _, [], _, _, hW', trodAll_mk1 (shut_bool Ybad.underlying4 _), (trodAll_cons_mk (Below.trod laid_out (by kernel_rfl) (of_decide_eq_true (by kernel_rfl)) k0 bel lt0) (trodAll_cons_mk (Below.trod laid_out (by kernel_rfl) (of_decide_eq_true (by kernel_rfl)) k1 bel lt1) (trodAll_cons_mk (Below.trod laid_out (by kernel_rfl) (of_decide_eq_true (by kernel_rfl)) k2 bel lt2) trodAll_mk0))), trodVars_mk1 hg ht hvar' hd', bel.frame _, fun h => by cases h⟩

theorem over : Rows.LawS3195AAnnounceSaid :=
  OpenClaim.holds_of_wide 3 Ybad.f3 rfl rfl rfl rfl rfl rfl rfl ⟨rfl, rfl, rfl, rfl, rfl⟩ rfl rfl rfl rfl rfl (by kernel_rfl) Ybad.func3 (by kernel_rfl)
    (of_decide_eq_true (by kernel_rfl)) (by unfold Func.isWrapper; first | (rw [if_pos (by decide +kernel)]; kernel_rfl) | (rw [if_neg (by decide +kernel)]; exact ⟨rfl, rfl⟩))
    (fun os started H enc _ => lifted os started H enc)

/-- THE TIED CARD. -/
theorem proved : Rows.LawS3195AAnnounceCardSaid :=
  Claim7.holds_tied_plain_at .later [] [.mapped] true (true, "58246f687c7d7358d39f212c391c6ad08a984af576eb851908ba0637ab5937e1") false
    over (fun _ h => by cases h) (by kernel_rfl) (fun _ h => by cases h) lawS3195AAnnounce_row_tie rfl ⟨rfl, rfl⟩ (by kernel_rfl) rfl
    (fun f fn hf hfn => by
      obtain rfl : f = 3 := Option.some.inj ((show Ybad.prog.funcNamed "example.com/signalweft/signalweft.LawS3195AAnnounce" = some 3 by kernel_rfl).symm.trans hf) |>.symm
      obtain rfl : fn = Ybad.f3 := (Option.some.inj (Ybad.func3.symm.trans hfn)).symm
      exact ⟨by kernel_rfl, fun j t ht => by
        rw [Ybad.params3] at ht
        have hm : t ∈ [22, 23, 23] := by simpa using Array.mem_of_getElem? ht
        have hall : ([22, 23, 23].all fun u => !Ybad.prog.wantsStandIn u) = true := by kernel_rfl
        exact (show Ybad.prog.wantsStandIn t = false by simpa using List.all_eq_true.1 hall t hm)⟩)
    (by kernel_rfl)
#print axioms proved
end Go.Proofs.YbulkbndkDoor.lawS3195AAnnounce
