/-
  The law's last loop over the four ASPs.
-/
import Derived.Test.YbulkbndkDoorLoF
namespace Go.Proofs.YbulkbndkDoor.Pr
set_option linter.unusedSimpArgs false
set_option linter.unusedVariables false
open Go.ChangeShapes Go.WideShapes Go.ChangeAt Go.RowKit

def F11c (B X Od j : Nat) (f : Act) : Prop := f.tmps.size = 368 ∧ f.defers = [] ∧ f.tmps[8]?.getD undef = .pointer (some ⟨B, 0, none⟩) ∧ f.tmps[10]?.getD undef = .pointer (some ⟨B + 2, 0, none⟩) ∧ f.tmps[22]?.getD undef = .pointer (some ⟨X, 0, none⟩) ∧ f.tmps[23]?.getD undef = .pointer (some ⟨Od, 0, none⟩) ∧ f.tmps[41]?.getD undef = .int .i64 (j : Int)
def I11c (B X Od : Nat) (w0 : World) (m : Nat) (f : Act) (w : World) : Prop := ∃ j, j ≤ 4 ∧ m = 4 - j ∧ F11c B X Od j f ∧ Fr 0 [] w0 w

set_option maxRecDepth 100000 in
set_option maxHeartbeats 8000000 in
theorem loop11 {Q : Exit → Act → World → Prop} (B X Od : Nat) (S : SS) (hx : ∀ j, j < 4 → ∀ e ∈ S.ex j, e.1 < 4294967296 ∧ e.2 < 4294967296) (hel : ∀ j, (S.ex j).length ≤ 1000000) (pv ov : Value) (bv ev : Nat → Value) (mp : Nat → List Nat) (w : World) (hB : Bx B S pv bv mp w) (hE : Ex B X Od S ov ev w) (hq : w.rowIs (B + 2) 35 4 (fun i => ptr (asb B i))) (f : Act) (hF : F11c B X Od 0 f)
    (hend : ∀ f' w', F11c B X Od 4 f' → Fr 0 [] w w' → Q (.exit 20) f' w') :
    Code.wp Ybad.prog ((Ybad.f3.body.bind (blk 20)).getD .skip) Q f w := by
  conv => arg 2; whnf
  refine wp_loop_ghost (I11c B X Od w) 4 ⟨0, Nat.zero_le _, rfl, hF, Fr.refl _ _ _⟩ ?_
  clear hF f
  rintro m f w1 ⟨j, hj, rfl, ⟨hsz, hds, e8, e10, e22, e23, e41⟩, hFr⟩
  obtain ⟨g, hg⟩ : ∃ g : Nat → Value, ∀ t, f.tmps[t]?.getD undef = g t := ⟨_, fun _ => rfl⟩
  rw [hg] at e8 e10 e22 e23 e41
  rw [lit368 f g hg hsz hds, e8, e10, e22, e23, e41]
  clear hg hsz hds e8 e10 e22 e23 e41
  have HE : Hid (∀ f' w', F11c B X Od 4 f' → Fr 0 [] w w' → Q (.exit 20) f' w') := hend
  have HFr : Hid (Fr 0 [] w w1) := hFr
  have hB1 := hB.fr hFr (by simp) (by simp) (by simp) (by simp) (by simp) (by simp) (by simp)
  have hE1 := hE.fr hFr (by simp) (by simp) (by simp) (by simp)
  by_cases hlt : j < 4
  · have hq1 := (hFr.row hq (by simp)).cell hlt
    obtain ⟨ea, ec, hev, _⟩ := own_shape (hE1.rows j hlt)
    obtain ⟨ba, bc, hbv, _⟩ := own_shape (hB1.bat j hlt)
    have cx := hE1.arr.cell hlt
    rw [hev] at cx
    have hj0 : (0 : Int) ≤ (j : Int) := by omega
    have hj1 : (j : Int) < 4 := by omega
    have hlen := hB1.len j hlt
    obtain ⟨af, haf, haf16, haf17⟩ := hB1.asc j hlt
    have c17 := haf.cell (i := 17) (by omega)
    rw [haf17, hbv, hlen] at c17
    unfold ptr at hq1
    have HB1 : Hid (Bx B S pv bv mp w1) := hB1
    have HE1 : Hid (Ex B X Od S ov ev w1) := hE1
    have HQ : Hid (w1.rowIs (B + 2) 35 4 (fun i => ptr (asb B i))) := hFr.row hq (by simp)
    have HX : Hid ((∀ e ∈ S.ex j, e.1 < 4294967296 ∧ e.2 < 4294967296) ∧ (S.ex j).length ≤ 1000000) := ⟨hx j hlt, hel j⟩
    clear hend hB hE hq hFr hB1 hE1 hev hbv haf haf16 haf17 hx hlen hel
    go_wp2_with fail
    go_quiet (fail)
    go_wp2_with fail
    rename_i K1 hK1
    refine loop12 B X Od j hlt S HX.out.1 HX.out.2 pv ov bv ev mp _ (HB1.out.fr ((Fr.refl 0 [] w1).drewN _) (by simp) (by simp) (by simp) (by simp) (by simp) (by simp) (by simp)) (HE1.out.fr ((Fr.refl 0 [] w1).drewN _) (by simp) (by simp) (by simp) (by simp)) (((Fr.refl 0 [] w1).drewN _).row HQ.out (by simp)) _ ⟨rfl, rfl, rfl, rfl, rfl, rfl, rfl, rfl⟩ ?_
    rintro f' w2 ⟨hsz, hds, e8, e10, e22, e23, e41, e42⟩ hF2
    obtain ⟨g2, hg2⟩ : ∃ g2 : Nat → Value, ∀ t, f'.tmps[t]?.getD undef = g2 t := ⟨_, fun _ => rfl⟩
    rw [hg2] at e8 e10 e22 e23 e41 e42
    rw [lit368 f' g2 hg2 hsz hds, e8, e10, e22, e23, e41, e42]
    clear hg2 hsz hds e8 e10 e22 e23 e41 e42
    have HF2 : Hid (Fr 0 [] w w2) := (HFr.out.drewN _).trans hF2
    clear hF2 c17 cx hq1
    first | (refine hK1 _ _ ?_; clear hK1) | clear hK1
    go_wp2_with fail
    refine ⟨4 - (j + 1), by omega, j + 1, by omega, rfl, ⟨rfl, rfl, rfl, rfl, rfl, rfl, by first | rfl | go_num⟩, HF2.out⟩
  · obtain rfl : j = 4 := by omega
    clear hend hB hE hq hFr hB1 hE1 hx
    go_wp2_with fail
    exact HE.out _ _ ⟨rfl, rfl, rfl, rfl, rfl, rfl, rfl⟩ HFr.out
end Go.Proofs.YbulkbndkDoor.Pr
