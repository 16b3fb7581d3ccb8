/-
  LawS3195AAnnounce (function 3).
-/
import Derived.Test.YbulkbndkDoorTail
namespace Go.Proofs.YbulkbndkDoor.Pr
set_option linter.unusedSimpArgs false
set_option linter.unusedVariables false
open Go.ChangeShapes Go.WideShapes Go.ChangeAt Go.RowKit

theorem run_ases (n : Nat) (hn : n ≤ 64) (w : World) : (Instr.makeSlice 66 (.int .i64 (n : Int)) (.int .i64 (n : Int))).run Ybad.prog w = .ok (.slice (some ⟨w.heap.size, 0, none⟩) n n) (w.alloc (.cells (madeCells #[.pointer none] n) 72)) := by
  obtain ⟨i, hi, hz0, hs, hby⟩ := info_parts info72
  exact run_make_row (P := Ybad.prog) 66 72 i _ Ybad.underlying66 hi hz0 hs rfl .i64 .i64 n (by rw [hby]; omega) (by omega) w

def Wb (w : World) : World := ((w.alloc (Obj.cells #[.slice none 0 0] 31)).alloc (Obj.cells #[.pointer none, .pointer none, .pointer none, .pointer none] 33)).alloc (Obj.cells #[.pointer none, .pointer none, .pointer none, .pointer none] 35)
theorem mk4_start (w : World) : Mk4 w.heap.size 0 (Wb w) := by
  have h0 : (w.alloc (Obj.cells #[.slice none 0 0] 31)).rowIs w.heap.size 31 1 (fun _ => .slice none 0 0) := row_new 1 rfl fun i hi => by
    obtain rfl : i = 0 := by omega
    rfl
  have h1 : ((w.alloc (Obj.cells #[.slice none 0 0] 31)).alloc (Obj.cells #[.pointer none, .pointer none, .pointer none, .pointer none] 33)).rowIs (w.heap.size + 1) 33 4 (fun _ => .pointer none) := by
    have := row_new (w := w.alloc (Obj.cells #[.slice none 0 0] 31)) (cs := #[.pointer none, .pointer none, .pointer none, .pointer none]) (t := 33) (f := fun _ => .pointer none) 4 rfl (fun i hi => by
      have : i = 0 ∨ i = 1 ∨ i = 2 ∨ i = 3 := by omega
      rcases this with rfl | rfl | rfl | rfl <;> rfl)
    simpa using this
  have h2 : (Wb w).rowIs (w.heap.size + 2) 35 4 (fun _ => .pointer none) := by
    have := row_new (w := (w.alloc (Obj.cells #[.slice none 0 0] 31)).alloc (Obj.cells #[.pointer none, .pointer none, .pointer none, .pointer none] 33)) (cs := #[.pointer none, .pointer none, .pointer none, .pointer none]) (t := 35) (f := fun _ => .pointer none) 4 rfl (fun i hi => by
      have : i = 0 ∨ i = 1 ∨ i = 2 ∨ i = 3 := by omega
      rcases this with rfl | rfl | rfl | rfl <;> rfl)
    simpa [Wb] using this
  exact ⟨by simp [Wb], (h0.alloc _).alloc _, row_congr (h1.alloc _) (fun i _ => by simp), row_congr h2 (fun i _ => by simp), fun i hi => by omega, fun i hi => by omega⟩

theorem Mk4.bx {B : Nat} {w : World} (h : Mk4 B 4 w) : BX B S0 w :=
  ⟨.slice none 0 0, fun _ => .slice none 0 0, fun _ => [], h.box, fun j hj => h.asc j hj, (by simpa [S0] using World.ownsRow_nil w B 34 1), fun j _ => (by simpa [qcells] using World.ownsRow_nil w B 137 4), fun i j k _ _ h => (by cases h), fun j _ => rfl, fun j i p e _ h => (by simp at h)⟩

def Wo (w : World) : World := ((w.alloc (Obj.cells #[.slice none 0 0, .slice none 0 0, .slice none 0 0, .pointer none, .slice none 0 0] 90)).alloc (Obj.cells #[.slice none 0 0, .slice none 0 0, .slice none 0 0, .slice none 0 0] 92)).alloc (Obj.cells #[.slice none 0 0] 93)
theorem wo_row (w : World) : (Wo w).rowIs w.heap.size 90 5 (oc (.slice none 0 0) (.slice none 0 0)) := by
  have h0 : (w.alloc (Obj.cells #[.slice none 0 0, .slice none 0 0, .slice none 0 0, .pointer none, .slice none 0 0] 90)).rowIs w.heap.size 90 5 (oc (.slice none 0 0) (.slice none 0 0)) := row_new 5 rfl fun i hi => by
    have : i = 0 ∨ i = 1 ∨ i = 2 ∨ i = 3 ∨ i = 4 := by omega
    rcases this with rfl | rfl | rfl | rfl | rfl <;> rfl
  exact (h0.alloc _).alloc _
theorem wo_ex (w : World) (B : Nat) (hB : B ≤ w.heap.size) : EX B (w.heap.size + 1) (w.heap.size + 2) S0 (Wo w) := by
  have h1 : ((w.alloc (Obj.cells #[.slice none 0 0, .slice none 0 0, .slice none 0 0, .pointer none, .slice none 0 0] 90)).alloc (Obj.cells #[.slice none 0 0, .slice none 0 0, .slice none 0 0, .slice none 0 0] 92)).rowIs (w.heap.size + 1) 92 4 (fun _ => .slice none 0 0) := by
    have := row_new (w := w.alloc (Obj.cells #[.slice none 0 0, .slice none 0 0, .slice none 0 0, .pointer none, .slice none 0 0] 90)) (cs := #[.slice none 0 0, .slice none 0 0, .slice none 0 0, .slice none 0 0]) (t := 92) (f := fun _ => .slice none 0 0) 4 rfl (fun i hi => by
      have : i = 0 ∨ i = 1 ∨ i = 2 ∨ i = 3 := by omega
      rcases this with rfl | rfl | rfl | rfl <;> rfl)
    simpa using this
  have h2 : (Wo w).rowIs (w.heap.size + 2) 93 1 (fun _ => .slice none 0 0) := by
    have := row_new (w := (w.alloc (Obj.cells #[.slice none 0 0, .slice none 0 0, .slice none 0 0, .pointer none, .slice none 0 0] 90)).alloc (Obj.cells #[.slice none 0 0, .slice none 0 0, .slice none 0 0, .slice none 0 0] 92)) (cs := #[.slice none 0 0]) (t := 93) (f := fun _ => .slice none 0 0) 1 rfl (fun i hi => by
      obtain rfl : i = 0 := by omega
      rfl)
    simpa [Wo] using this
  exact ⟨.slice none 0 0, fun _ => .slice none 0 0, h1.alloc _, h2, (by simpa [S0, ints] using World.ownsRow_nil (Wo w) B 3 1), fun j _ => (by simpa [S0, ecells] using World.ownsRow_nil (Wo w) B 98 2), fun i j k _ _ h => (by cases h), by omega, by omega⟩

theorem own_base {w : World} {b b' e size n : Nat} {v : Value} {xs : List Value} (h : w.ownsRow b e size v n xs) (hb : b' ≤ b) : w.ownsRow b' e size v n xs := by
  refine ⟨h.1, ?_⟩
  rcases h.2 with h2 | ⟨g, cap, cur, hv, hg, r⟩
  · exact Or.inl h2
  · exact Or.inr ⟨g, cap, cur, hv, Nat.le_trans hb hg, r⟩

set_option maxRecDepth 100000 in
set_option maxHeartbeats 16000000 in
theorem law3 (sa ca da : Option Addr) (n sc cc dc : Nat) (cs ds : List Nat) (hc : ∀ x ∈ cs, x < 256) (hd : ∀ x ∈ ds, x < 256) (SV : Nat → Sv) (ma : Nat → Option Addr) (mc : Nat → Nat) (hV : ∀ i, (SV i).rc < 4294967296 ∧ (SV i).st < 256 ∧ (∀ m ∈ (SV i).ms, m < 256) ∧ ∀ j, (SV i).ss j < 256) (hV2 : ∀ i, n ≤ i → (SV i).ms = [])
    (gm cl : Nat) (es : Array MapEntry) (w : World) (hI : Inp w.heap.size n SV sa ma mc w) (hs1 : Src1 w.heap.size w ca cs) (hs2 : Src1 w.heap.size w da ds) (hG : Glob w gm es cl) :
    Calls Ybad.prog 3 #[.slice sa n sc, .slice ca cs.length cc, .slice da ds.length dc] w fun e w' => e = .returned (.bool true) ∧ Below w.heap.size w w' := by
  have hpos : 0 < w.heap.size := by have := World.block_lt_of_cell? w _ hG.cell; simp at this; omega
  by_cases h1 : 64 < n
  · have hJ : (64 : Int) < (n : Int) := by omega
    clear hI hs1 hs2 hG
    go_enter Ybad.func3, Ybad.ntmps3
    go_wp2_with fail
    go_ret
    exact ⟨rfl, (Fr.refl w.heap.size [] w).below (Nat.le_refl _) (Nat.le_refl _)⟩
  have hJ1 : ¬ (64 : Int) < (n : Int) := by omega
  by_cases h2 : 256 < cs.length
  · have hJ : (256 : Int) < (cs.length : Int) := by omega
    clear hI hs1 hs2 hG
    go_enter Ybad.func3, Ybad.ntmps3
    go_wp2_with fail
    go_ret
    exact ⟨rfl, (Fr.refl w.heap.size [] w).below (Nat.le_refl _) (Nat.le_refl _)⟩
  have hJ2 : ¬ (256 : Int) < (cs.length : Int) := by omega
  by_cases h3 : 256 < ds.length
  · have hJ : (256 : Int) < (ds.length : Int) := by omega
    clear hI hs1 hs2 hG
    go_enter Ybad.func3, Ybad.ntmps3
    go_wp2_with fail
    go_ret
    exact ⟨rfl, (Fr.refl w.heap.size [] w).below (Nat.le_refl _) (Nat.le_refl _)⟩
  have hJ3 : ¬ (256 : Int) < (ds.length : Int) := by omega
  have HI : Hid (Inp w.heap.size n SV sa ma mc w) := hI
  have HS1 : Hid (Src1 w.heap.size w ca cs) := hs1
  have HS2 : Hid (Src1 w.heap.size w da ds) := hs2
  have HG : Hid (Glob w gm es cl) := hG
  have HV : Hid (∀ i, (SV i).rc < 4294967296 ∧ (SV i).st < 256 ∧ (∀ m ∈ (SV i).ms, m < 256) ∧ ∀ j, (SV i).ss j < 256) := hV
  have HV2 : Hid (∀ i, n ≤ i → (SV i).ms = []) := hV2
  have HC : Hid ((∀ x ∈ cs, x < 256) ∧ ∀ x ∈ ds, x < 256) := ⟨hc, hd⟩
  clear hI hs1 hs2 hG hV hV2 hc hd
  go_enter Ybad.func3, Ybad.ntmps3
  go_wp2_with fail
  rename_i K1 hK1
  refine loop1 w.heap.size n sc sa (.slice ca cs.length cc) (.slice da ds.length dc) SV ma mc (by omega) w HI.out _ ⟨rfl, rfl, rfl, rfl, rfl, rfl⟩ ?_ ?_
  case refine_2 =>
    intro f' hs hd h6
    simp only [Exit.inBlock, Exit.then]
    refine bodyPost_ret (fn := Ybad.f3) (results_tmp rfl _ _ _) hd ?_
    refine ⟨?_, (Fr.refl w.heap.size [] w).below (Nat.le_refl _) (Nat.le_refl _)⟩
    rw [Array.getD_eq_getD_getElem?]
    exact congrArg Ending.returned h6
  rintro f1 ⟨hsz, hds, e0, e1, e2, e7⟩ hle
  obtain ⟨g1, hg1⟩ : ∃ g1 : Nat → Value, ∀ t, f1.tmps[t]?.getD undef = g1 t := ⟨_, fun _ => rfl⟩
  rw [hg1] at e0 e1 e2 e7
  rw [lit368 f1 g1 hg1 hsz hds, e0, e1, e2, e7]
  clear hg1 hsz hds e0 e1 e2 e7
  have HO : Hid (∀ i, (SV i).Ok) := fun i => ⟨(HV.out i).1, (HV.out i).2.1, (HV.out i).2.2.1, by
    by_cases c : i < n
    · exact hle i c
    · rw [HV2.out i (by omega)]; simp, (HV.out i).2.2.2⟩
  clear hle
  refine hK1 _ _ ?_
  clear hK1
  go_wp2_with fail
  rename_i K2 hK2
  refine loop2 w.heap.size (.slice sa n sc) (.slice ca cs.length cc) (.slice da ds.length dc) (Wb w) (mk4_start w) _ ⟨rfl, rfl, rfl, rfl, rfl, rfl, rfl, rfl, rfl⟩ ?_
  rintro f2 w2 ⟨hsz, hds, e0, e1, e2, e8, e9, e10, e11⟩ hM hF2
  obtain ⟨g2, hg2⟩ : ∃ g2 : Nat → Value, ∀ t, f2.tmps[t]?.getD undef = g2 t := ⟨_, fun _ => rfl⟩
  rw [hg2] at e0 e1 e2 e8 e9 e10 e11
  rw [lit368 f2 g2 hg2 hsz hds, e0, e1, e2, e8, e9, e10, e11]
  clear hg2 hsz hds e0 e1 e2 e8 e9 e10 e11
  have HM : Hid (Mk4 w.heap.size 4 w2) := hM
  have HF2 : Hid (Fr w.heap.size [33, 35, 63] w w2) := (((((Fr.refl 0 [] w).alloc _).alloc _).alloc _ : Fr 0 [] w (Wb w))).none.trans hF2
  have hmk := run_ases n (by omega)
  clear hM hF2
  refine hK2 _ _ ?_
  clear hK2
  go_wp2_with fail
  rename_i K3 hK3
  have hFm : Fr 0 [] w2 (w2.alloc (Obj.cells (madeCells #[.pointer none] n) 72)) := (Fr.refl _ _ _).alloc _
  have hM2 := HM.out
  have hsz2 := hM2.size
  refine loop3 sa sc (.slice ca cs.length cc) (.slice da ds.length dc) w.heap.size w2.heap.size n SV HO.out ma mc (by omega) (w2.alloc (Obj.cells (madeCells #[.pointer none] n) 72)) ((HI.out.fr HF2.out).fr (hFm.none (T := []))) (Asps.fr (fun j hj => hM2.asp j hj) hFm (by simp)) (hFm.row (row_congr hM2.pa (fun i hi => by simp [hi])) (by simp)) (by omega) (World.rowIs_made w2 (.pointer none) n 72) _ ⟨rfl, rfl, rfl, rfl, rfl, rfl, rfl, rfl, rfl, rfl⟩ ?_
  rintro f3 w4 A M af ⟨hsz, hds, e0, e1, e2, e8, e9, e10, e13, e14⟩ hSrv hAses hF4
  obtain ⟨g3, hg3⟩ : ∃ g3 : Nat → Value, ∀ t, f3.tmps[t]?.getD undef = g3 t := ⟨_, fun _ => rfl⟩
  rw [hg3] at e0 e1 e2 e8 e9 e10 e13 e14
  rw [lit368 f3 g3 hg3 hsz hds, e0, e1, e2, e8, e9, e10, e13, e14]
  clear hg3 hsz hds e0 e1 e2 e8 e9 e10 e13 e14
  have hF24 : Fr w.heap.size [72] w2 w4 := (hFm.none (T := [72])).trans hF4
  have hBx4 : BX w.heap.size S0 w4 := hM2.bx.fr hF24 (by decide) (by decide) (by decide) (by decide) (by decide) (by decide) (by decide)
  have hAsp4 : Asps w.heap.size w4 := Asps.fr (fun j hj => hM2.asp j hj) hF24 (by decide)
  have hq4 : w4.rowIs (w.heap.size + 2) 35 4 (fun i => ptr (asb w.heap.size i)) := hF24.row (row_congr hM2.qa (fun i hi => by simp [hi])) (by decide)
  have hFw4 : Fr w.heap.size [33, 35, 63, 72] w w4 := (HF2.out.mono (by decide)).trans (hF24.mono (by decide))
  have HSrv : Hid (Srvs w.heap.size n SV A M af w4) := hSrv
  have HAses : Hid (w4.rowIs w2.heap.size 72 n (fun k => if k < n then ptr (A k) else .pointer none)) := hAses
  have HBx4 : Hid (BX w.heap.size S0 w4) := hBx4
  have HAsp4 : Hid (Asps w.heap.size w4) := hAsp4
  have HQ4 : Hid (w4.rowIs (w.heap.size + 2) 35 4 (fun i => ptr (asb w.heap.size i))) := hq4
  have HFw4 : Hid (Fr w.heap.size [33, 35, 63, 72] w w4) := hFw4
  have HSz : Hid (w2.heap.size = w.heap.size + 3 + 2 * 4 ∧ w2.heap.size < w4.heap.size ∧ w.heap.size ≤ w4.heap.size) := ⟨hsz2, hAses.lt, hFw4.size⟩
  clear hF24 hBx4 hAsp4 hq4 hFw4 hSrv hAses hF4 hFm hM2 hsz2 HM hmk
  refine hK3 _ _ ?_
  clear hK3
  refine wp_seq_k fun K hK => ?_
  have HK : Hid (∀ a w, _ → K a w) := hK
  clear hK
  go_wp2_with fail
  refine HK.out _ _ ?_
  clear HK
  refine wp_seq_k fun K hK => ?_
  have HK : Hid (∀ a w, _ → K a w) := hK
  clear hK
  go_wp2_with fail
  refine HK.out _ _ ?_
  clear HK
  refine wp_seq_k fun K hK => ?_
  have HK : Hid (∀ a w, _ → K a w) := hK
  clear hK
  go_wp2_with fail
  refine HK.out _ _ ?_
  clear HK
  refine wp_seq_k fun K hK => ?_
  have HK : Hid (∀ a w, _ → K a w) := hK
  clear hK
  have hF5 : Fr 0 [] w4 (Wo w4) := ((Fr.refl _ _ _).alloc _).alloc _ |>.alloc _
  have HF5 : Hid (Fr 0 [] w4 (Wo w4)) := hF5
  have HFw5 : Hid (Fr w.heap.size [33, 35, 63, 72] w (Wo w4)) := HFw4.out.trans hF5.none
  clear hF5
  by_cases hn : n = 0
  · subst hn
    go_wp2_with fail
    refine HK.out _ _ ?_
    have HBel : Hid (Fr w.heap.size [33, 35, 63, 72, 31, 34, 137] w (Wo w4)) := HFw5.out.mono (by decide)
    refine law_tail w.heap.size 0 gm cl w4.heap.size (w4.heap.size + 1) (w4.heap.size + 2) es SV HO.out A M af (.slice none 0 0) (.slice none 0 0) [] [] (fun c h => by cases h) (by simp) (fun c h => by cases h) (by simp) (Wo w4) (HBx4.out.fr HF5.out (by simp) (by simp) (by simp) (by simp) (by simp) (by simp) (by simp))
      ⟨HSrv.out.fr HF5.out (by simp) (by simp), HAsp4.out.fr HF5.out (by simp), HG.out.fr HFw5.out hpos, hpos⟩ (by simpa using World.ownsRow_nil (Wo w4) w.heap.size 72 1) (by simpa using World.ownsRow_nil (Wo w4) w.heap.size 72 1) (wo_row w4) (by simpa [ann] using wo_ex w4 w.heap.size HSz.out.2.2) (HF5.out.row HQ4.out (by simp)) _ rfl rfl rfl rfl rfl rfl rfl ?_
    intro f' w' hs hd h6 hFt
    show bodyPost Ybad.prog Ybad.f3 _ Exit.ret f' w'
    refine bodyPost_ret (results_tmp rfl _ _ _) hd ?_
    refine ⟨?_, (HBel.out.trans (hFt.mono (by decide))).below (Nat.le_refl _) (Nat.le_refl _)⟩
    rw [Array.getD_eq_getD_getElem?]
    exact congrArg Ending.returned h6
  · have hn1 : (0 : Int) < (n : Int) := by omega
    go_wp2_with fail
    rename_i K5 hK5
    have hI5 := HI.out.fr HFw5.out
    have hz := HSz.out
    refine loop6 sa sc (.slice ca cs.length cc) (.slice da ds.length dc) w.heap.size w2.heap.size n w4.heap.size (w4.heap.size + 1) (w4.heap.size + 2) ca cc cs SV HO.out A ma mc (by omega) (by omega) (by omega) HC.out.1 S0 0 ⟨fun j => by simp [S0], by simp [S0]⟩ (by omega) (Wo w4) hI5 (HS1.out.fr HFw5.out) (by omega) (by omega) (by have := HF5.out.size; omega) (wo_row w4) (HF5.out.row HAses.out (by simp)) (wo_ex w4 w.heap.size HSz.out.2.2) _ ⟨rfl, rfl, rfl, rfl, rfl, rfl, rfl, rfl, rfl, rfl, rfl, rfl, rfl, rfl, rfl⟩ ?_
    rintro f6 w6 cv ⟨hsz, hds, e0, e1, e2, e8, e9, e10, e13, e21, e22, e23, e175, e176, e177⟩ hO6 hR6 hA6 hX6 hF6
    obtain ⟨g6, hg6⟩ : ∃ g6 : Nat → Value, ∀ t, f6.tmps[t]?.getD undef = g6 t := ⟨_, fun _ => rfl⟩
    rw [hg6] at e0 e1 e2 e8 e9 e10 e13 e21 e22 e23 e175 e176 e177
    rw [lit368 f6 g6 hg6 hsz hds, e0, e1, e2, e8, e9, e10, e13, e21, e22, e23, e175, e176, e177]
    clear hg6 hsz hds e0 e1 e2 e8 e9 e10 e13 e21 e22 e23 e175 e176 e177
    have HO6 : Hid (w6.rowIs w4.heap.size 90 5 (oc cv (.slice none 0 0))) := hO6
    have HR6 : Hid (w6.ownsRow (w2.heap.size + 1) 72 1 cv cs.length ((cs.map (· % n)).map fun c => ptr (A c))) := hR6
    have HA6 : Hid (w6.rowIs w2.heap.size 72 n (fun k => if k < n then ptr (A k) else .pointer none)) := hA6
    have HX6 : Hid (EX w.heap.size (w4.heap.size + 1) (w4.heap.size + 2) (ann up (fun s => asN s.st) SV S0 (cs.map (· % n))) w6) := hX6
    have HF6 : Hid (Fr w.heap.size T6 (Wo w4) w6) := hF6
    clear hO6 hR6 hA6 hX6 hF6 hI5 hz
    refine hK5 _ _ ?_
    clear hK5
    go_wp2_with fail
    try rename_i K6 hK6
    have hFw6 : Fr w.heap.size [33, 35, 63, 72, 92, 93, 3, 98, 90] w w6 := (HFw5.out.mono (by decide)).trans (HF6.out.mono (by decide))
    have hz := HSz.out
    have hle6 := ann_le (flt := up) (sel := fun s => asN s.st) (SV := SV) (cs.map (· % n)) (fun c _ => HO.out c) (show S0.le 0 from ⟨fun j => by simp [S0], by simp [S0]⟩)
    have hml : (cs.map (· % n)).length = cs.length := by simp
    have hmd : (ds.map (· % n)).length = ds.length := by simp
    refine loop8 sa sc (.slice ca cs.length cc) (.slice da ds.length dc) w.heap.size w2.heap.size n w4.heap.size (w4.heap.size + 1) (w4.heap.size + 2) da dc ds cv (cs.map (· % n)) SV HO.out A ma mc (by omega) (by omega) (by omega) HC.out.2 _ _ hle6 (by omega) w6 (HI.out.fr hFw6) (HS2.out.fr hFw6) (by rw [hml]; exact HR6.out) (by omega) (by omega) HA6.out.lt HO6.out HA6.out HX6.out _ ⟨rfl, rfl, rfl, rfl, rfl, rfl, rfl, rfl, rfl, rfl, rfl, rfl, rfl, rfl, rfl⟩ ?_
    rintro f8 w8 sv ⟨hsz, hds, e0, e1, e2, e8, e9, e10, e13, e21, e22, e23, e242, e243, e244⟩ hO8 hR8 hA8 hX8 hF8 hC8
    obtain ⟨g8, hg8⟩ : ∃ g8 : Nat → Value, ∀ t, f8.tmps[t]?.getD undef = g8 t := ⟨_, fun _ => rfl⟩
    rw [hg8] at e0 e1 e2 e8 e9 e10 e13 e21 e22 e23 e242 e243 e244
    rw [lit368 f8 g8 hg8 hsz hds, e0, e1, e2, e8, e9, e10, e13, e21, e22, e23, e242, e243, e244]
    clear hg8 hsz hds e0 e1 e2 e8 e9 e10 e13 e21 e22 e23 e242 e243 e244
    have hFw8 : Fr w.heap.size [33, 35, 63, 72, 92, 93, 3, 98, 90] w w8 := hFw6.trans (hF8.mono (by decide))
    have hF48 : Fr w.heap.size T6 w4 w8 := (HF5.out.none.trans HF6.out).trans hF8
    have HBel : Hid (Fr w.heap.size [33, 35, 63, 72, 92, 93, 3, 98, 90, 31, 34, 137] w w8) := hFw8.mono (by decide)
    have hmem : ∀ (l : List Nat), ∀ c ∈ l.map (· % n), c < n := fun l c hc => by
      obtain ⟨x, _, rfl⟩ := List.mem_map.1 hc
      exact Nat.mod_lt _ (by omega)
    have HT : Hid (BX w.heap.size S0 w8 ∧ Env w.heap.size n gm cl es SV A M af w8 ∧ w8.rowIs (w.heap.size + 2) 35 4 (fun i => ptr (asb w.heap.size i))) := ⟨HBx4.out.fr hF48 (by decide) (by decide) (by decide) (by decide) (by decide) (by decide) (by decide), ⟨HSrv.out.fr hF48 (by decide) (by decide), HAsp4.out.fr hF48 (by decide), HG.out.fr hFw8 hpos, hpos⟩, hF48.row HQ4.out (by decide)⟩
    have HO8 : Hid (w8.rowIs w4.heap.size 90 5 (oc cv sv)) := hO8
    have HR8 : Hid (w8.ownsRow w.heap.size 72 1 sv (ds.map (· % n)).length ((ds.map (· % n)).map fun c => ptr (A c))) := by rw [hmd]; exact own_base hR8 hFw6.size
    have HC8 : Hid (w8.ownsRow w.heap.size 72 1 cv (cs.map (· % n)).length ((cs.map (· % n)).map fun c => ptr (A c))) := own_base hC8 (by omega)
    have HX8 : Hid (EX w.heap.size (w4.heap.size + 1) (w4.heap.size + 2) (ann inact (fun _ => 131073) SV (ann up (fun s => asN s.st) SV S0 (cs.map (· % n))) (ds.map (· % n))) w8) := hX8
    have HMm : Hid (∀ (l : List Nat), ∀ c ∈ l.map (· % n), c < n) := hmem
    clear hO8 hR8 hA8 hX8 hF8 hC8 hFw8 hF48 hmem hFw6 hle6
    first | (refine hK6 _ _ ?_; clear hK6) | skip
    try go_wp2_with fail
    refine HK.out _ _ ?_
    refine law_tail w.heap.size n gm cl w4.heap.size (w4.heap.size + 1) (w4.heap.size + 2) es SV HO.out A M af cv sv (cs.map (· % n)) (ds.map (· % n)) (HMm.out cs) (by omega) (HMm.out ds) (by omega) w8 HT.out.1 HT.out.2.1 HC8.out HR8.out HO8.out HX8.out HT.out.2.2 _ rfl rfl rfl rfl rfl rfl rfl ?_
    intro f' w' hs hd h6 hFt
    show bodyPost Ybad.prog Ybad.f3 _ Exit.ret f' w'
    refine bodyPost_ret (results_tmp rfl _ _ _) hd ?_
    refine ⟨?_, (HBel.out.trans (hFt.mono (by decide))).below (Nat.le_refl _) (Nat.le_refl _)⟩
    rw [Array.getD_eq_getD_getElem?]
    exact congrArg Ending.returned h6
end Go.Proofs.YbulkbndkDoor.Pr
