/-
  The staircase's 'add' (function 30): its return.
-/
import Derived.Test.YbulkbnbuSw
namespace Go.Proofs.Ybulkbnbu.Kn
set_option linter.unusedSimpArgs false
set_option linter.unusedVariables false
open Go.ChangeShapes Go.WideShapes Go.ChangeAt Go.RowKit
open Go.Proofs.Ybulkbnbu.Fl

set_option maxRecDepth 100000 in
set_option maxHeartbeats 8000000 in
theorem fin47 {R : Ending → World → Prop} (r hb gs gv gw n0 n1 cs cv nw cw : Nat) (f : Act) (w : World) (hsz : f.tmps.size = 285) (hds : f.defers = []) (e4 : f.tmps[4]?.getD undef = .slice (some ⟨gw, 0, none⟩) nw cw) (e10 : f.tmps[10]?.getD undef = .pointer (some ⟨r, 0, none⟩)) (e16 : f.tmps[16]?.getD undef = .pointer (some ⟨hb, 0, none⟩))
    (z0 : w.cell? ⟨hb, 0, none⟩ = some (.slice (some ⟨gs, 0, none⟩) n0 cs)) (z1 : w.cell? ⟨hb, 1, none⟩ = some (.slice (some ⟨gv, 0, none⟩) n1 cv)) (hres : w.rowIs r 56 2 (fun _ => .slice none 0 0))
    (hR : R (.returned (.tuple #[.agg #[.slice (some ⟨gs, 0, none⟩) n0 cs, .slice (some ⟨gv, 0, none⟩) n1 cv], .slice (some ⟨gw, 0, none⟩) nw cw])) ((w.setCell ⟨r, 0, none⟩ (.slice (some ⟨gs, 0, none⟩) n0 cs)).setCell ⟨r, 1, none⟩ (.slice (some ⟨gv, 0, none⟩) n1 cv))) :
    Code.wp Yba.prog ((Yba.f30.body.bind (at_ 47)).getD .skip) (bodyPost Yba.prog Yba.f30 R) f w := by
  conv => arg 2; whnf
  obtain ⟨g, hg⟩ : ∃ g : Nat → Value, ∀ t, f.tmps[t]?.getD undef = g t := ⟨_, fun _ => rfl⟩
  rw [hg] at e4 e10 e16
  rw [lit285 f g hg hsz hds, e4, e10, e16]
  clear hg hsz hds e4 e10 e16
  have y0 := hres.cell (i := 0) (by omega)
  have y1 := hres.cell (i := 1) (by omega)
  have t0 := hres.frozen 0
  have t1 := hres.frozen 1
  have s0 : (w.setCell ⟨r, 0, none⟩ (.slice (some ⟨gs, 0, none⟩) n0 cs)).cell? ⟨r, 0, none⟩ = some (.slice (some ⟨gs, 0, none⟩) n0 cs) := by simpa using (hres.set 0 (.slice (some ⟨gs, 0, none⟩) n0 cs)).cell (i := 0) (by omega)
  have s1 : ((w.setCell ⟨r, 0, none⟩ (.slice (some ⟨gs, 0, none⟩) n0 cs)).setCell ⟨r, 1, none⟩ (.slice (some ⟨gv, 0, none⟩) n1 cv)).cell? ⟨r, 1, none⟩ = some (.slice (some ⟨gv, 0, none⟩) n1 cv) := by simpa using ((hres.set 0 (.slice (some ⟨gs, 0, none⟩) n0 cs)).set 1 (.slice (some ⟨gv, 0, none⟩) n1 cv)).cell (i := 1) (by omega)
  have HR : Hid (_) := hR
  clear hR hres
  go_wp2_with fail
  refine bodyPost_ret (v := .tuple #[.agg #[.slice (some ⟨gs, 0, none⟩) n0 cs, .slice (some ⟨gv, 0, none⟩) n1 cv], .slice (some ⟨gw, 0, none⟩) nw cw]) (by simp [results, Yba.results30, go_sem, s0, s1]; try rfl) rfl HR.out
end Go.Proofs.Ybulkbnbu.Kn
