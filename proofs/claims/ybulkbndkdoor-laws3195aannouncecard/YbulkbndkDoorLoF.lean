/-
  The law's last loops: what was sent is what it expects.
-/
import Derived.Test.YbulkbndkDoorLoE
import Derived.Test.YbulkbndkDoorChk
namespace Go.Proofs.YbulkbndkDoor.Pr
set_option linter.unusedSimpArgs false
set_option linter.unusedVariables false
open Go.ChangeShapes Go.WideShapes Go.ChangeAt Go.RowKit

theorem size63 : (Ybad.prog.info? 63).map (·.size) = some 21 := by kernel_rfl
theorem neq_same0 (d a : Nat) (w : World) : (Op.equalIn (d + 1) 34 (.pointer (some ⟨a, 0, none⟩)) (.pointer (some ⟨a, 0, none⟩))).run Ybad.prog w = .ok true w := by
  obtain ⟨i, hi, hs⟩ := Option.map_eq_some_iff.1 size63
  simp [Op.equalIn, run_underlying Ybad.underlying34, sizeOf, typeInfo, hi, hs, run_sameAddr_same]
theorem neq_same (a : Nat) (w : World) : (Op.equal 34 (.pointer (some ⟨a, 0, none⟩)) (.pointer (some ⟨a, 0, none⟩))).run Ybad.prog w = .ok true w := neq_same0 9999 a w

theorem neq_ptr (a : Nat) (w : World) : (binOp .neq 34 (.pointer (some ⟨a, 0, none⟩)) (.pointer (some ⟨a, 0, none⟩))).run Ybad.prog w = .ok (.bool false) w := by
  simp only [binOp]
  simp [neq_same a w]

theorem qcells_get : ∀ (ms : List Nat) (k p r : Nat), ms[k]? = some p → r < 4 → (qcells ms)[k * 4 + r]? = some (if r = 0 then ptr p else if r = 1 then .int .u64 0 else if r = 2 then .int .i64 0 else .pointer none)
  | [], k, p, r, h, _ => by simp at h
  | m :: ms, 0, p, r, h, hr => by
    obtain rfl : m = p := by simpa using h
    have : r = 0 ∨ r = 1 ∨ r = 2 ∨ r = 3 := by omega
    rcases this with rfl | rfl | rfl | rfl <;> rfl
  | m :: ms, k + 1, p, r, h, hr => by
    have ih := qcells_get ms k p r (by simpa using h) hr
    have e : (k + 1) * 4 + r = (k * 4 + r) + 4 := by omega
    rw [e]
    exact ih
theorem ecells_get : ∀ (es : List (Nat × Nat)) (k : Nat) (e : Nat × Nat) (r : Nat), es[k]? = some e → r < 2 → (ecells es)[k * 2 + r]? = some (if r = 0 then .int .u32 (e.1 : Int) else .int .u32 (e.2 : Int))
  | [], k, p, r, h, _ => by simp at h
  | m :: ms, 0, p, r, h, hr => by
    obtain rfl : m = p := by simpa using h
    have : r = 0 ∨ r = 1 := by omega
    rcases this with rfl | rfl <;> rfl
  | m :: ms, k + 1, p, r, h, hr => by
    have ih := ecells_get ms k p r (by simpa using h) hr
    have e : (k + 1) * 2 + r = (k * 2 + r) + 2 := by omega
    rw [e]
    exact ih

def F10c (B X Od k : Nat) (f : Act) : Prop := f.tmps.size = 368 ∧ f.defers = [] ∧ f.tmps[8]?.getD undef = .pointer (some ⟨B, 0, none⟩) ∧ f.tmps[10]?.getD undef = .pointer (some ⟨B + 2, 0, none⟩) ∧ f.tmps[22]?.getD undef = .pointer (some ⟨X, 0, none⟩) ∧ f.tmps[23]?.getD undef = .pointer (some ⟨Od, 0, none⟩) ∧ f.tmps[40]?.getD undef = .int .i64 (k : Int)
def I10c (B X Od : Nat) (S : SS) (w0 : World) (m : Nat) (f : Act) (w : World) : Prop := ∃ k c, k ≤ S.od.length ∧ m = S.od.length - k ∧ F10c B X Od k f ∧ w = w0.drewN c

set_option maxRecDepth 100000 in
set_option maxHeartbeats 8000000 in
theorem loop10 {Q : Exit → Act → World → Prop} (B X Od : Nat) (S : SS) (hod : ∀ j ∈ S.od, j < 4) (hol : S.od.length ≤ 1000000) (pv ov : Value) (bv ev : Nat → Value) (mp : Nat → List Nat) (w : World) (hB : Bx B S pv bv mp w) (hE : Ex B X Od S ov ev w) (hq : w.rowIs (B + 2) 35 4 (fun i => ptr (asb B i))) (f : Act) (hF : F10c B X Od 0 f)
    (hend : ∀ f' c, F10c B X Od S.od.length f' → Q (.exit 18) f' (w.drewN c)) :
    Code.wp Ybad.prog ((Ybad.f3.body.bind (blk 18)).getD .skip) Q f w := by
  conv => arg 2; whnf
  refine wp_loop_ghost (I10c B X Od S w) S.od.length ⟨0, 0, Nat.zero_le _, rfl, hF, rfl⟩ ?_
  clear hF f
  rintro m f w1 ⟨k, c, hk, rfl, ⟨hsz, hds, e8, e10, e22, e23, e40⟩, rfl⟩
  obtain ⟨g, hg⟩ : ∃ g : Nat → Value, ∀ t, f.tmps[t]?.getD undef = g t := ⟨_, fun _ => rfl⟩
  rw [hg] at e8 e10 e22 e23 e40
  rw [lit368 f g hg hsz hds, e8, e10, e22, e23, e40]
  clear hg hsz hds e8 e10 e22 e23 e40
  have HE : Hid (∀ f' c, F10c B X Od S.od.length f' → Q (.exit 18) f' (w.drewN c)) := hend
  obtain ⟨oa, oc', hov, hoc⟩ := own_shape hE.od
  obtain ⟨pa, pc, hpv, hpc⟩ := own_shape hB.pend
  have co := hE.oc.cell (i := 0) (by omega)
  have cb := hB.box.cell (i := 0) (by omega)
  rw [hov] at co
  rw [hpv] at cb
  by_cases hlt : k < S.od.length
  · have hI0 : (0 : Int) ≤ (k : Int) := by omega
    have hI1 : (k : Int) < (S.od.length : Int) := by omega
    have hj : S.od[k] < 4 := hod _ (List.getElem_mem hlt)
    obtain ⟨ob, rfl, ho1⟩ := hoc k (.int .i64 (S.od[k] : Int)) (by unfold ints; rw [List.getElem?_map, List.getElem?_eq_getElem hlt]; rfl)
    obtain ⟨pb, rfl, hp1⟩ := hpc k (ptr (asb B S.od[k])) (by rw [List.getElem?_map, List.getElem?_eq_getElem hlt]; rfl)
    have hq1 := hq.cell hj
    generalize S.od[k] = j at *
    have hj0 : (0 : Int) ≤ (j : Int) := by omega
    have hj1 : (j : Int) < 4 := by omega
    have hne := neq_ptr (asb B j)
    have hne2 := neq_same (asb B j)
    unfold ptr at hp1 hq1
    clear hend hod hoc hpc hov hpv hB hE hq
    go_wp2_with fail
    go_quiet (fail)
    go_wp2_with fail
    refine ⟨S.od.length - (k + 1), by omega, k + 1, _, by omega, rfl, ⟨rfl, rfl, rfl, rfl, rfl, rfl, by first | rfl | go_num⟩, rfl⟩
  · obtain rfl : k = S.od.length := by omega
    have hI1 : ¬ (S.od.length : Int) < (S.od.length : Int) := by omega
    clear hend hod hoc hpc hov hpv hB hE hq
    go_wp2_with fail
    exact HE.out _ _ ⟨rfl, rfl, rfl, rfl, rfl, rfl, rfl⟩

def F12c (B X Od j k : Nat) (f : Act) : Prop := f.tmps.size = 368 ∧ f.defers = [] ∧ f.tmps[8]?.getD undef = .pointer (some ⟨B, 0, none⟩) ∧ f.tmps[10]?.getD undef = .pointer (some ⟨B + 2, 0, none⟩) ∧ f.tmps[22]?.getD undef = .pointer (some ⟨X, 0, none⟩) ∧ f.tmps[23]?.getD undef = .pointer (some ⟨Od, 0, none⟩) ∧ f.tmps[41]?.getD undef = .int .i64 (j : Int) ∧ f.tmps[42]?.getD undef = .int .i64 (k : Int)
def I12c (B X Od j : Nat) (S : SS) (w0 : World) (m : Nat) (f : Act) (w : World) : Prop := ∃ k, k ≤ (S.ex j).length ∧ m = (S.ex j).length - k ∧ F12c B X Od j k f ∧ Fr 0 [] w0 w

set_option maxRecDepth 100000 in
set_option maxHeartbeats 8000000 in
theorem loop12 {Q : Exit → Act → World → Prop} (B X Od j : Nat) (hj : j < 4) (S : SS) (hx : ∀ e ∈ S.ex j, e.1 < 4294967296 ∧ e.2 < 4294967296) (hel : (S.ex j).length ≤ 1000000) (pv ov : Value) (bv ev : Nat → Value) (mp : Nat → List Nat) (w : World) (hB : Bx B S pv bv mp w) (hE : Ex B X Od S ov ev w) (hq : w.rowIs (B + 2) 35 4 (fun i => ptr (asb B i))) (f : Act) (hF : F12c B X Od j 0 f)
    (hend : ∀ f' w', F12c B X Od j (S.ex j).length f' → Fr 0 [] w w' → Q (.exit 22) f' w') :
    Code.wp Ybad.prog ((Ybad.f3.body.bind (blk 22)).getD .skip) Q f w := by
  conv => arg 2; whnf
  refine wp_loop_ghost (I12c B X Od j S w) (S.ex j).length ⟨0, Nat.zero_le _, rfl, hF, Fr.refl _ _ _⟩ ?_
  clear hF f
  rintro m f w1 ⟨k, hk, rfl, ⟨hsz, hds, e8, e10, e22, e23, e41, e42⟩, hFr⟩
  obtain ⟨g, hg⟩ : ∃ g : Nat → Value, ∀ t, f.tmps[t]?.getD undef = g t := ⟨_, fun _ => rfl⟩
  rw [hg] at e8 e10 e22 e23 e41 e42
  rw [lit368 f g hg hsz hds, e8, e10, e22, e23, e41, e42]
  clear hg hsz hds e8 e10 e22 e23 e41 e42
  have HE : Hid (∀ f' w', F12c B X Od j (S.ex j).length f' → Fr 0 [] w w' → Q (.exit 22) f' w') := hend
  have HFr : Hid (Fr 0 [] w w1) := hFr
  have hB1 := hB.fr hFr (by simp) (by simp) (by simp) (by simp) (by simp) (by simp) (by simp)
  have hE1 := hE.fr hFr (by simp) (by simp) (by simp) (by simp)
  have hq1 := (hFr.row hq (by simp)).cell hj
  obtain ⟨ea, ec, hev, hecl⟩ := own_shape (hE1.rows j hj)
  obtain ⟨ba, bc, hbv, hbcl⟩ := own_shape (hB1.bat j hj)
  have cx := hE1.arr.cell hj
  rw [hev] at cx
  have hj0 : (0 : Int) ≤ (j : Int) := by omega
  have hj1 : (j : Int) < 4 := by omega
  have hlen := hB1.len j hj
  by_cases hlt : k < (S.ex j).length
  · have hI0 : (0 : Int) ≤ (k : Int) := by omega
    have hI1 : (k : Int) < ((S.ex j).length : Int) := by omega
    have hI2 : (k : Int) < ((mp j).length : Int) := by omega
    obtain ⟨af, haf, haf16, haf17⟩ := hB1.asc j hj
    have c17 := haf.cell (i := 17) (by omega)
    rw [haf17, hbv, hlen] at c17
    have hmp : (mp j)[k]? = some (mp j)[k] := List.getElem?_eq_getElem (by omega)
    have hex : (S.ex j)[k]? = some (S.ex j)[k] := List.getElem?_eq_getElem hlt
    have hmsg := hB1.msg j k _ _ hj hmp hex
    have hxx := hx _ (List.getElem_mem hlt)
    generalize (mp j)[k] = p at *
    generalize (S.ex j)[k] = e at *
    obtain ⟨st, rc⟩ := e
    obtain ⟨bb, rfl, b0⟩ := hbcl (k * 4 + 0) _ (qcells_get _ k p 0 hmp (by omega))
    obtain ⟨bb1, e1, b1⟩ := hbcl (k * 4 + 1) _ (qcells_get _ k p 1 hmp (by omega))
    obtain ⟨bb2, e2, b2⟩ := hbcl (k * 4 + 2) _ (qcells_get _ k p 2 hmp (by omega))
    obtain ⟨bb3, e3, b3⟩ := hbcl (k * 4 + 3) _ (qcells_get _ k p 3 hmp (by omega))
    obtain rfl : bb = bb1 := by simpa using e1
    obtain rfl : bb = bb2 := by simpa using e2
    obtain rfl : bb = bb3 := by simpa using e3
    obtain ⟨eb, rfl, x0⟩ := hecl (k * 2 + 0) _ (ecells_get _ k _ 0 hex (by omega))
    obtain ⟨eb1, e4, x1⟩ := hecl (k * 2 + 1) _ (ecells_get _ k _ 1 hex (by omega))
    obtain rfl : eb = eb1 := by simpa using e4
    simp only [Nat.add_zero, if_true, if_false, ptr, Nat.one_ne_zero, Nat.reduceEqDiff] at b0 b1 b2 b3 x0 x1
    unfold ptr at hq1
    have HMsg : Hid (IsMsg w1 p st rc) := hmsg
    have HXX : Hid (st < 4294967296 ∧ rc < 4294967296) := hxx
    clear hend hB hE hq hFr hB1 hE1 hecl hbcl hev hbv haf haf16 haf17 hmp hex hmsg hxx e1 e2 e3 e4 hx hlen hI2
    go_wp2_with fail
    go_region_held3 (fun w' => w'.cell? ⟨B + 2, j, none⟩ = some (.pointer (some ⟨asb B j, 0, none⟩)) ∧ w'.cell? ⟨asb B j, 17, none⟩ = some (.slice (some ⟨bb, 0, none⟩) (S.ex j).length bc) ∧ w'.cell? ⟨bb, k * 4, none⟩ = some (.pointer (some ⟨p, 0, none⟩)) ∧ w'.cell? ⟨bb, k * 4 + 1, none⟩ = some (.int .u64 0) ∧ w'.cell? ⟨bb, k * 4 + 2, none⟩ = some (.int .i64 0) ∧ w'.cell? ⟨bb, k * 4 + 3, none⟩ = some (.pointer none) ∧ w'.cell? ⟨X, j, none⟩ = some (.slice (some ⟨eb, 0, none⟩) (S.ex j).length ec) ∧ w'.cell? ⟨eb, k * 2, none⟩ = some (.int .u32 (st : Int)) ∧ w'.cell? ⟨eb, k * 2 + 1, none⟩ = some (.int .u32 (rc : Int)))
      (first
        | go_keep
        | (go_split_ands; exact ⟨HF2.out.keepCell hq1 rfl, HF2.out.keepCell c17 rfl, HF2.out.keepCell b0 rfl, HF2.out.keepCell b1 rfl, HF2.out.keepCell b2 rfl, HF2.out.keepCell b3 rfl, HF2.out.keepCell cx rfl, HF2.out.keepCell x0 rfl, HF2.out.keepCell x1 rfl⟩))
      (first | (go_at_call 8; refine (check_any p st rc HXX.out.1 HXX.out.2 w1.drew HMsg.out).mono ?_; rintro e w2 ⟨rfl, hF2⟩; have HF2 : Hid (Fr 0 [] w1 w2) := ((Fr.refl 0 [] w1).drew).trans hF2; clear hF2))
    go_wp2_with fail
    refine ⟨(S.ex j).length - (k + 1), by omega, k + 1, by omega, rfl, ⟨rfl, rfl, rfl, rfl, rfl, rfl, rfl, by first | rfl | go_num⟩, HFr.out.trans HF2.out⟩
  · obtain rfl : k = (S.ex j).length := by omega
    have hI1 : ¬ ((S.ex j).length : Int) < ((S.ex j).length : Int) := by omega
    clear hend hB hE hq hFr hB1 hE1 hecl hbcl hbv
    go_wp2_with fail
    exact HE.out _ _ ⟨rfl, rfl, rfl, rfl, rfl, rfl, rfl, rfl⟩ HFr.out
end Go.Proofs.YbulkbndkDoor.Pr
