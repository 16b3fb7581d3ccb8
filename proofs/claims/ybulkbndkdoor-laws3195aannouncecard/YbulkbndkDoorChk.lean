/-
  The law's reading of a queued message: check.
-/
import Derived.Test.YbulkbndkDoorAnn
namespace Go.Proofs.YbulkbndkDoor.Pr
set_option linter.unusedSimpArgs false
set_option linter.unusedVariables false
open Go.ChangeShapes Go.WideShapes Go.ChangeAt Go.RowKit

set_option maxRecDepth 100000 in
set_option maxHeartbeats 4000000 in
theorem check_any (p st rc : Nat) (hst : st < 4294967296) (hrc : rc < 4294967296) (w : World) (hm : IsMsg w p st rc) :
    Calls Ybad.prog 8 #[.agg #[.pointer (some ⟨p, 0, none⟩), .int .u64 0, .int .i64 0, .pointer none], .agg #[.int .u32 (st : Int), .int .u32 (rc : Int)]] w fun e w' => e = .returned (.bool true) ∧ Fr 0 [] w w' := by
  obtain ⟨pb, pc, g1, c1, g2, c2, hrow, hpar, hv1, hv2⟩ := hm
  have m0 := hrow.cell (i := 0) (by omega)
  have m1 := hrow.cell (i := 1) (by omega)
  have m2 := hrow.cell (i := 2) (by omega)
  simp only [msgCells] at m0 m1 m2
  have lp := hrow.lt
  have par : ∀ i u, ([.int .u16 13, .slice (some ⟨g1, 0, none⟩) 4 c1, .int .u16 6, .slice (some ⟨g2, 0, none⟩) 4 c2] : List Value)[i]? = some u → w.cell? ⟨pb, i, none⟩ = some u := fun i u hu => by
    obtain ⟨a, cap, e, h⟩ := own_shape hpar
    obtain ⟨b, hb, hc⟩ := h i u hu
    subst hb
    have : b = pb := by have := e.symm; simp at this; exact this.1
    rw [← this]; exact hc
  have p0 := par 0 _ rfl
  have p1 := par 1 _ rfl
  have p2 := par 2 _ rfl
  have p3 := par 3 _ rfl
  have lpb : pb < w.heap.size := ownsRow_lt hpar pb rfl
  have HV1 : Hid (w.ownsRow 0 5 1 (.slice (some ⟨g1, 0, none⟩) 4 c1) 4 (bytesOf st)) := hv1
  have HV2 : Hid (w.ownsRow 0 5 1 (.slice (some ⟨g2, 0, none⟩) 4 c2) 4 (bytesOf rc)) := hv2
  have HB : Hid (∀ (w' : World) g c x, w'.ownsRow 0 5 1 (.slice (some ⟨g, 0, none⟩) 4 c) 4 (bytesOf x) → ∀ i u, (bytesOf x)[i]? = some u → w'.cell? ⟨g, i, none⟩ = some u) := fun w' g c x h0 i u hu => by
    obtain ⟨a, cap, e, h⟩ := own_shape h0
    obtain ⟨b, hb, hc⟩ := h i u hu
    subst hb
    have : b = g := by have := e.symm; simp at this; exact this.1
    rw [← this]; exact hc
  clear hrow hpar hv1 hv2 par
  go_enter Ybad.func8, Ybad.ntmps8
  go_wp2_with fail
  refine (isZero_any _).mono ?_
  rintro e w1 ⟨rfl, hw1⟩
  have hF1 : Fr 0 [] ((w.alloc (Obj.cells #[.pointer (some ⟨p, 0, none⟩), .int .u64 0, .int .i64 0, .pointer none] 137)).alloc (Obj.cells #[.int .u32 (st : Int), .int .u32 (rc : Int)] 98)) w1 := by rw [hw1]; exact (Fr.refl _ _ _).alloc _
  have hF0 : Fr 0 [] w w1 := (((Fr.refl _ _ _).alloc _).alloc _).trans hF1
  have r0 := hF1.keepCell (a := ⟨w.heap.size + 1, 0, none⟩) (v := .int .u32 (st : Int)) (by simp) rfl
  have r1 := hF1.keepCell (a := ⟨w.heap.size + 1, 1, none⟩) (v := .int .u32 (rc : Int)) (by simp) rfl
  replace m0 := hF0.keepCell m0 rfl
  replace m1 := hF0.keepCell m1 rfl
  replace m2 := hF0.keepCell m2 rfl
  replace p0 := hF0.keepCell p0 rfl
  replace p1 := hF0.keepCell p1 rfl
  replace p2 := hF0.keepCell p2 rfl
  replace p3 := hF0.keepCell p3 rfl
  have HW1 : Hid (w1.ownsRow 0 5 1 (.slice (some ⟨g1, 0, none⟩) 4 c1) 4 (bytesOf st)) := hF0.owns HV1.out (by simp)
  have HW2 : Hid (w1.ownsRow 0 5 1 (.slice (some ⟨g2, 0, none⟩) 4 c2) 4 (bytesOf rc)) := hF0.owns HV2.out (by simp)
  have HF0 : Hid (Fr 0 [] w w1) := hF0
  clear hF0 hF1 hw1
  go_wp2_with fail
  refine (be_any g1 c1 st hst w1 (HB.out _ g1 c1 st HW1.out)).mono ?_
  rintro e w2 ⟨rfl, k, rfl⟩
  go_wp2_with fail
  refine (be_any g2 c2 rc hrc (w1.drewN k) (HB.out (w1.drewN k) g2 c2 rc HW2.out)).mono ?_
  rintro e w3 ⟨rfl, k2, rfl⟩
  go_wp2_with fail
  go_returns
  exact ⟨rfl, HF0.out.drewN _⟩
end Go.Proofs.YbulkbndkDoor.Pr
