/-
  The law's record of what it expects: one server's members.
-/
import Derived.Test.YbulkbndkDoorLoC
namespace Go.Proofs.YbulkbndkDoor.Pr
set_option linter.unusedSimpArgs false
set_option linter.unusedVariables false
open Go.ChangeShapes Go.WideShapes Go.ChangeAt Go.RowKit


def F7c (sa : Option Addr) (sc : Nat) (vb vc : Value) (B Sa n O X Od : Nat) (xv : Value) (xl xi k st : Nat) (ma : Option Addr) (mc : Nat) (ms : List Nat) (q : Nat) (f : Act) : Prop := f.tmps.size = 368 ∧ f.defers = [] ∧ f.tmps[0]?.getD undef = .slice sa n sc ∧ f.tmps[1]?.getD undef = vb ∧ f.tmps[2]?.getD undef = vc ∧ f.tmps[8]?.getD undef = .pointer (some ⟨B, 0, none⟩) ∧ f.tmps[9]?.getD undef = .pointer (some ⟨B + 1, 0, none⟩) ∧ f.tmps[10]?.getD undef = .pointer (some ⟨B + 2, 0, none⟩) ∧ f.tmps[13]?.getD undef = .slice (some ⟨Sa, 0, none⟩) n n ∧ f.tmps[21]?.getD undef = .pointer (some ⟨O, 0, none⟩) ∧ f.tmps[22]?.getD undef = .pointer (some ⟨X, 0, none⟩) ∧ f.tmps[23]?.getD undef = .pointer (some ⟨Od, 0, none⟩) ∧ f.tmps[175]?.getD undef = xv ∧ f.tmps[176]?.getD undef = .int .i64 (xl : Int) ∧ f.tmps[177]?.getD undef = .int .i64 (xi : Int) ∧ f.tmps[26]?.getD undef = .int .i64 (k : Int) ∧ f.tmps[28]?.getD undef = .int .u32 (st : Int) ∧ f.tmps[208]?.getD undef = .slice ma ms.length mc ∧ f.tmps[209]?.getD undef = .int .i64 (ms.length : Int) ∧ f.tmps[210]?.getD undef = .int .i64 (q : Int)
def I7c (sa : Option Addr) (sc : Nat) (vb vc : Value) (B Sa n O X Od : Nat) (xv : Value) (xl xi k st : Nat) (ma : Option Addr) (mc : Nat) (ms : List Nat) (rc : Nat) (ss : Nat → Nat) (S : SS) (w0 : World) (m : Nat) (f : Act) (w : World) : Prop :=
  ∃ q, q ≤ ms.length ∧ m = ms.length - q ∧ F7c sa sc vb vc B Sa n O X Od xv xl xi k st ma mc ms q f ∧ EX B X Od (feed up st rc ss S (ms.take q)) w ∧ Fr B TE w0 w

set_option maxRecDepth 100000 in
set_option maxHeartbeats 8000000 in
theorem loop7 {Q : Exit → Act → World → Prop} (sa : Option Addr) (sc : Nat) (vb vc : Value) (B Sa n O X Od : Nat) (xv : Value) (xl xi k st : Nat) (ma : Option Addr) (mc : Nat) (ms : List Nat) (rc : Nat) (ss : Nat → Nat) (hss : ∀ j, ss j < 256) (hms : ∀ m ∈ ms, m < 256) (hml : ms.length ≤ 256) (hk : k < n) (S : SS) (n0 : Nat) (hS : S.le n0) (hn0 : n0 ≤ 500000) (w : World) (hX : EX B X Od S w) (hBw : B ≤ w.heap.size) (hsrc : Src1 B w ma ms)
    (hc0 : ∃ sb so, sa = some ⟨sb, so, none⟩ ∧ sb < B ∧ w.cell? ⟨sb, so + k * 7, none⟩ = some (.int .u32 (rc : Int)) ∧ ∀ j, j < 4 → w.cell? ⟨sb, so + k * 7 + 3 + j, none⟩ = some (.int .u8 (ss j : Int))) (f : Act) (hF : F7c sa sc vb vc B Sa n O X Od xv xl xi k st ma mc ms 0 f)
    (hend : ∀ f' w', F7c sa sc vb vc B Sa n O X Od xv xl xi k st ma mc ms ms.length f' → EX B X Od (feed up st rc ss S ms) w' → Fr B TE w w' → Q (.exit 12) f' w') :
    Code.wp Ybad.prog ((Ybad.f3.body.bind (blk 12)).getD .skip) Q f w := by
  conv => arg 2; whnf
  refine wp_loop_ghost (I7c sa sc vb vc B Sa n O X Od xv xl xi k st ma mc ms rc ss S w) ms.length ⟨0, Nat.zero_le _, rfl, hF, by simpa [feed] using hX, Fr.refl _ _ _⟩ ?_
  clear hF f
  rintro m f w1 ⟨q, hq, rfl, ⟨hsz, hds, e0, e1, e2, e8, e9, e10, e13, e21, e22, e23, e175, e176, e177, e26, e28, e208, e209, e210⟩, hX1, hFr⟩
  obtain ⟨g, hg⟩ : ∃ g : Nat → Value, ∀ t, f.tmps[t]?.getD undef = g t := ⟨_, fun _ => rfl⟩
  rw [hg] at e0 e1 e2 e8 e9 e10 e13 e21 e22 e23 e175 e176 e177 e26 e28 e208 e209 e210
  rw [lit368 f g hg hsz hds, e0, e1, e2, e8, e9, e10, e13, e21, e22, e23, e175, e176, e177, e26, e28, e208, e209, e210]
  clear hg hsz hds e0 e1 e2 e8 e9 e10 e13 e21 e22 e23 e175 e176 e177 e26 e28 e208 e209 e210
  have HE : Hid (∀ f' w', F7c sa sc vb vc B Sa n O X Od xv xl xi k st ma mc ms ms.length f' → EX B X Od (feed up st rc ss S ms) w' → Fr B TE w w' → Q (.exit 12) f' w') := hend
  have HX : Hid (EX B X Od (feed up st rc ss S (ms.take q)) w1) := hX1
  have HFr : Hid (Fr B TE w w1) := hFr
  by_cases hlt : q < ms.length
  · have hI0 : (0 : Int) ≤ (q : Int) := by omega
    have hI1 : (q : Int) < (ms.length : Int) := by omega
    have hk0 : (0 : Int) ≤ (k : Int) := by omega
    have hk1 : (k : Int) < (n : Int) := by omega
    obtain ⟨mb, mo, rfl, hmb, hmc⟩ := hsrc q ms[q] (List.getElem?_eq_getElem hlt)
    obtain ⟨sb, so, rfl, hsb, d0, d3⟩ := hc0
    have hmm : ms[q] < 256 := hms _ (List.getElem_mem hlt)
    have hnx : feed up st rc ss S (ms.take (q + 1)) = if up (ss (ms[q] % 4)) then (feed up st rc ss S (ms.take q)).push (ms[q] % 4) (st, rc) else feed up st rc ss S (ms.take q) := by rw [take_snoc hlt, feed_snoc]
    generalize ms[q] = mm at *
    have hcm := hFr.cellLow hmb hmc
    obtain ⟨j, hjd⟩ : ∃ j, j = mm % 4 := ⟨_, rfl⟩
    rw [← hjd] at hnx
    have hj : j < 4 := by omega
    have hjm : (mm : Int) % 4 = (j : Int) := by omega
    have hj0 : (0 : Int) ≤ (j : Int) := by omega
    have hj1 : (j : Int) < 4 := by omega
    have hm0 : (0 : Int) ≤ (mm : Int) := by omega
    have hwr : IntKind.i64.wrap (mm : Int) = (mm : Int) := by rw [IntKind.wrap_i64]; omega
    have htm : (mm : Int).tmod 4 = (j : Int) := by rw [Int.tmod_eq_emod_of_nonneg hm0]; exact hjm
    have cs := hFr.cellLow hsb (d3 j hj)
    have cr := hFr.cellLow hsb d0
    have hle := feed_le (flt := up) (st := st) (rc := rc) (ss := ss) (ms.take q) hS
    have htl : (ms.take q).length ≤ 256 := by rw [List.length_take]; omega
    have HL : Hid (((feed up st rc ss S (ms.take q)).ex j).length ≤ 1000000 ∧ (feed up st rc ss S (ms.take q)).od.length ≤ 1000000 ∧ B ≤ w1.heap.size) := ⟨by have := hle.1 j; omega, by have := hle.2; omega, by have := hFr.size; omega⟩
    clear hend hX hX1 hFr hsrc d0 d3 hmc hjd hle htl hS
    rcases (by omega : ss j % 3 = 0 ∨ ss j % 3 = 1 ∨ ss j % 3 = 2) with hr | hr | hr
    · have hfl : up (ss j) = false := by unfold up; rw [hr]; rfl
      rw [hfl] at hnx
      have kL : (aspB (ss j)).toList = [65, 83, 80, 45, 68, 79, 87, 78] := by unfold aspB; rw [hr]; kernel_rfl
      have HN : Hid (feed up st rc ss S (ms.take (q + 1)) = _) := hnx
      clear hfl hnx hr
      go_wp2_with fail
      refine (aspState_any (ss j) (hss j) w1).mono ?_
      rintro e w2 ⟨rfl, rfl⟩
      rw [aspS_eq]
      go_wp2_with fail
      refine ⟨ms.length - (q + 1), by omega, q + 1, by omega, rfl, ⟨rfl, rfl, rfl, rfl, rfl, rfl, rfl, rfl, rfl, rfl, rfl, rfl, rfl, rfl, rfl, rfl, rfl, rfl, rfl, by first | rfl | go_num⟩, ?_, HFr.out⟩
      rw [HN.out]
      exact HX.out
    · have hfl : up (ss j) = true := by unfold up; rw [hr]; rfl
      rw [hfl] at hnx
      have kL : (aspB (ss j)).toList = [65, 83, 80, 45, 73, 78, 65, 67, 84, 73, 86, 69] := by unfold aspB; rw [hr]; kernel_rfl
      have HN : Hid (feed up st rc ss S (ms.take (q + 1)) = _) := hnx
      clear hfl hnx hr
      go_wp2_with fail
      refine (aspState_any (ss j) (hss j) w1).mono ?_
      rintro e w2 ⟨rfl, rfl⟩
      rw [aspS_eq]
      go_wp2_with fail
      refine (push_any B X Od j st rc hj (feed up st rc ss S (ms.take q)) w2 HX.out HL.out.1 HL.out.2.1 HL.out.2.2).mono ?_
      rintro e w3 ⟨rfl, hX3, hF3⟩
      have HX3 : Hid (EX B X Od ((feed up st rc ss S (ms.take q)).push j (st, rc)) w3) := hX3
      have HF3 : Hid (Fr B TE w w3) := HFr.out.trans hF3
      clear hX3 hF3
      go_wp2_with fail
      refine ⟨ms.length - (q + 1), by omega, q + 1, by omega, rfl, ⟨rfl, rfl, rfl, rfl, rfl, rfl, rfl, rfl, rfl, rfl, rfl, rfl, rfl, rfl, rfl, rfl, rfl, rfl, rfl, by first | rfl | go_num⟩, ?_, HF3.out⟩
      rw [HN.out]
      exact HX3.out
    · have hfl : up (ss j) = true := by unfold up; rw [hr]; rfl
      rw [hfl] at hnx
      have kL : (aspB (ss j)).toList = [65, 83, 80, 45, 65, 67, 84, 73, 86, 69] := by unfold aspB; rw [hr]; kernel_rfl
      have HN : Hid (feed up st rc ss S (ms.take (q + 1)) = _) := hnx
      clear hfl hnx hr
      go_wp2_with fail
      refine (aspState_any (ss j) (hss j) w1).mono ?_
      rintro e w2 ⟨rfl, rfl⟩
      rw [aspS_eq]
      go_wp2_with fail
      refine (push_any B X Od j st rc hj (feed up st rc ss S (ms.take q)) w2 HX.out HL.out.1 HL.out.2.1 HL.out.2.2).mono ?_
      rintro e w3 ⟨rfl, hX3, hF3⟩
      have HX3 : Hid (EX B X Od ((feed up st rc ss S (ms.take q)).push j (st, rc)) w3) := hX3
      have HF3 : Hid (Fr B TE w w3) := HFr.out.trans hF3
      clear hX3 hF3
      go_wp2_with fail
      refine ⟨ms.length - (q + 1), by omega, q + 1, by omega, rfl, ⟨rfl, rfl, rfl, rfl, rfl, rfl, rfl, rfl, rfl, rfl, rfl, rfl, rfl, rfl, rfl, rfl, rfl, rfl, rfl, by first | rfl | go_num⟩, ?_, HF3.out⟩
      rw [HN.out]
      exact HX3.out
  · obtain rfl : q = ms.length := by omega
    have hI1 : ¬ (ms.length : Int) < (ms.length : Int) := by omega
    rw [List.take_length] at HX
    clear hend hX hX1 hFr hsrc hc0
    go_wp2_with fail
    exact HE.out _ _ ⟨rfl, rfl, rfl, rfl, rfl, rfl, rfl, rfl, rfl, rfl, rfl, rfl, rfl, rfl, rfl, rfl, rfl, rfl, rfl, rfl⟩ HX.out HFr.out

def F9c (sa : Option Addr) (sc : Nat) (vb vc : Value) (B Sa n O X Od : Nat) (xv : Value) (xl xi k st : Nat) (ma : Option Addr) (mc : Nat) (ms : List Nat) (q : Nat) (f : Act) : Prop := f.tmps.size = 368 ∧ f.defers = [] ∧ f.tmps[0]?.getD undef = .slice sa n sc ∧ f.tmps[1]?.getD undef = vb ∧ f.tmps[2]?.getD undef = vc ∧ f.tmps[8]?.getD undef = .pointer (some ⟨B, 0, none⟩) ∧ f.tmps[9]?.getD undef = .pointer (some ⟨B + 1, 0, none⟩) ∧ f.tmps[10]?.getD undef = .pointer (some ⟨B + 2, 0, none⟩) ∧ f.tmps[13]?.getD undef = .slice (some ⟨Sa, 0, none⟩) n n ∧ f.tmps[21]?.getD undef = .pointer (some ⟨O, 0, none⟩) ∧ f.tmps[22]?.getD undef = .pointer (some ⟨X, 0, none⟩) ∧ f.tmps[23]?.getD undef = .pointer (some ⟨Od, 0, none⟩) ∧ f.tmps[242]?.getD undef = xv ∧ f.tmps[243]?.getD undef = .int .i64 (xl : Int) ∧ f.tmps[244]?.getD undef = .int .i64 (xi : Int) ∧ f.tmps[35]?.getD undef = .int .i64 (k : Int) ∧ f.tmps[266]?.getD undef = .slice ma ms.length mc ∧ f.tmps[267]?.getD undef = .int .i64 (ms.length : Int) ∧ f.tmps[268]?.getD undef = .int .i64 (q : Int)
def I9c (sa : Option Addr) (sc : Nat) (vb vc : Value) (B Sa n O X Od : Nat) (xv : Value) (xl xi k st : Nat) (ma : Option Addr) (mc : Nat) (ms : List Nat) (rc : Nat) (ss : Nat → Nat) (S : SS) (w0 : World) (m : Nat) (f : Act) (w : World) : Prop :=
  ∃ q, q ≤ ms.length ∧ m = ms.length - q ∧ F9c sa sc vb vc B Sa n O X Od xv xl xi k st ma mc ms q f ∧ EX B X Od (feed inact 131073 rc ss S (ms.take q)) w ∧ Fr B TE w0 w

set_option maxRecDepth 100000 in
set_option maxHeartbeats 8000000 in
theorem loop9 {Q : Exit → Act → World → Prop} (sa : Option Addr) (sc : Nat) (vb vc : Value) (B Sa n O X Od : Nat) (xv : Value) (xl xi k st : Nat) (ma : Option Addr) (mc : Nat) (ms : List Nat) (rc : Nat) (ss : Nat → Nat) (hss : ∀ j, ss j < 256) (hms : ∀ m ∈ ms, m < 256) (hml : ms.length ≤ 256) (hk : k < n) (S : SS) (n0 : Nat) (hS : S.le n0) (hn0 : n0 ≤ 500000) (w : World) (hX : EX B X Od S w) (hBw : B ≤ w.heap.size) (hsrc : Src1 B w ma ms)
    (hc0 : ∃ sb so, sa = some ⟨sb, so, none⟩ ∧ sb < B ∧ w.cell? ⟨sb, so + k * 7, none⟩ = some (.int .u32 (rc : Int)) ∧ ∀ j, j < 4 → w.cell? ⟨sb, so + k * 7 + 3 + j, none⟩ = some (.int .u8 (ss j : Int))) (f : Act) (hF : F9c sa sc vb vc B Sa n O X Od xv xl xi k st ma mc ms 0 f)
    (hend : ∀ f' w', F9c sa sc vb vc B Sa n O X Od xv xl xi k st ma mc ms ms.length f' → EX B X Od (feed inact 131073 rc ss S ms) w' → Fr B TE w w' → Q (.exit 16) f' w') :
    Code.wp Ybad.prog ((Ybad.f3.body.bind (blk 16)).getD .skip) Q f w := by
  conv => arg 2; whnf
  refine wp_loop_ghost (I9c sa sc vb vc B Sa n O X Od xv xl xi k st ma mc ms rc ss S w) ms.length ⟨0, Nat.zero_le _, rfl, hF, by simpa [feed] using hX, Fr.refl _ _ _⟩ ?_
  clear hF f
  rintro m f w1 ⟨q, hq, rfl, ⟨hsz, hds, e0, e1, e2, e8, e9, e10, e13, e21, e22, e23, e242, e243, e244, e35, e266, e267, e268⟩, hX1, hFr⟩
  obtain ⟨g, hg⟩ : ∃ g : Nat → Value, ∀ t, f.tmps[t]?.getD undef = g t := ⟨_, fun _ => rfl⟩
  rw [hg] at e0 e1 e2 e8 e9 e10 e13 e21 e22 e23 e242 e243 e244 e35 e266 e267 e268
  rw [lit368 f g hg hsz hds, e0, e1, e2, e8, e9, e10, e13, e21, e22, e23, e242, e243, e244, e35, e266, e267, e268]
  clear hg hsz hds e0 e1 e2 e8 e9 e10 e13 e21 e22 e23 e242 e243 e244 e35 e266 e267 e268
  have HE : Hid (∀ f' w', F9c sa sc vb vc B Sa n O X Od xv xl xi k st ma mc ms ms.length f' → EX B X Od (feed inact 131073 rc ss S ms) w' → Fr B TE w w' → Q (.exit 16) f' w') := hend
  have HX : Hid (EX B X Od (feed inact 131073 rc ss S (ms.take q)) w1) := hX1
  have HFr : Hid (Fr B TE w w1) := hFr
  by_cases hlt : q < ms.length
  · have hI0 : (0 : Int) ≤ (q : Int) := by omega
    have hI1 : (q : Int) < (ms.length : Int) := by omega
    have hk0 : (0 : Int) ≤ (k : Int) := by omega
    have hk1 : (k : Int) < (n : Int) := by omega
    obtain ⟨mb, mo, rfl, hmb, hmc⟩ := hsrc q ms[q] (List.getElem?_eq_getElem hlt)
    obtain ⟨sb, so, rfl, hsb, d0, d3⟩ := hc0
    have hmm : ms[q] < 256 := hms _ (List.getElem_mem hlt)
    have hnx : feed inact 131073 rc ss S (ms.take (q + 1)) = if inact (ss (ms[q] % 4)) then (feed inact 131073 rc ss S (ms.take q)).push (ms[q] % 4) (131073, rc) else feed inact 131073 rc ss S (ms.take q) := by rw [take_snoc hlt, feed_snoc]
    generalize ms[q] = mm at *
    have hcm := hFr.cellLow hmb hmc
    obtain ⟨j, hjd⟩ : ∃ j, j = mm % 4 := ⟨_, rfl⟩
    rw [← hjd] at hnx
    have hj : j < 4 := by omega
    have hjm : (mm : Int) % 4 = (j : Int) := by omega
    have hj0 : (0 : Int) ≤ (j : Int) := by omega
    have hj1 : (j : Int) < 4 := by omega
    have hm0 : (0 : Int) ≤ (mm : Int) := by omega
    have hwr : IntKind.i64.wrap (mm : Int) = (mm : Int) := by rw [IntKind.wrap_i64]; omega
    have htm : (mm : Int).tmod 4 = (j : Int) := by rw [Int.tmod_eq_emod_of_nonneg hm0]; exact hjm
    have cs := hFr.cellLow hsb (d3 j hj)
    have cr := hFr.cellLow hsb d0
    have hle := feed_le (flt := inact) (st := 131073) (rc := rc) (ss := ss) (ms.take q) hS
    have htl : (ms.take q).length ≤ 256 := by rw [List.length_take]; omega
    have HL : Hid (((feed inact 131073 rc ss S (ms.take q)).ex j).length ≤ 1000000 ∧ (feed inact 131073 rc ss S (ms.take q)).od.length ≤ 1000000 ∧ B ≤ w1.heap.size) := ⟨by have := hle.1 j; omega, by have := hle.2; omega, by have := hFr.size; omega⟩
    clear hend hX hX1 hFr hsrc d0 d3 hmc hjd hle htl hS
    rcases (by omega : ss j % 3 = 0 ∨ ss j % 3 = 1 ∨ ss j % 3 = 2) with hr | hr | hr
    · have hfl : inact (ss j) = false := by unfold inact; rw [hr]; rfl
      rw [hfl] at hnx
      have kL : (aspB (ss j)).toList = [65, 83, 80, 45, 68, 79, 87, 78] := by unfold aspB; rw [hr]; kernel_rfl
      have HN : Hid (feed inact 131073 rc ss S (ms.take (q + 1)) = _) := hnx
      clear hfl hnx hr
      go_wp2_with fail
      refine (aspState_any (ss j) (hss j) w1).mono ?_
      rintro e w2 ⟨rfl, rfl⟩
      rw [aspS_eq]
      go_wp2_with fail
      refine ⟨ms.length - (q + 1), by omega, q + 1, by omega, rfl, ⟨rfl, rfl, rfl, rfl, rfl, rfl, rfl, rfl, rfl, rfl, rfl, rfl, rfl, rfl, rfl, rfl, rfl, rfl, by first | rfl | go_num⟩, ?_, HFr.out⟩
      rw [HN.out]
      exact HX.out
    · have hfl : inact (ss j) = true := by unfold inact; rw [hr]; rfl
      rw [hfl] at hnx
      have kL : (aspB (ss j)).toList = [65, 83, 80, 45, 73, 78, 65, 67, 84, 73, 86, 69] := by unfold aspB; rw [hr]; kernel_rfl
      have HN : Hid (feed inact 131073 rc ss S (ms.take (q + 1)) = _) := hnx
      clear hfl hnx hr
      go_wp2_with fail
      refine (aspState_any (ss j) (hss j) w1).mono ?_
      rintro e w2 ⟨rfl, rfl⟩
      rw [aspS_eq]
      go_wp2_with fail
      refine (push_any B X Od j 131073 rc hj (feed inact 131073 rc ss S (ms.take q)) w2 HX.out HL.out.1 HL.out.2.1 HL.out.2.2).mono ?_
      rintro e w3 ⟨rfl, hX3, hF3⟩
      have HX3 : Hid (EX B X Od ((feed inact 131073 rc ss S (ms.take q)).push j (131073, rc)) w3) := hX3
      have HF3 : Hid (Fr B TE w w3) := HFr.out.trans hF3
      clear hX3 hF3
      go_wp2_with fail
      refine ⟨ms.length - (q + 1), by omega, q + 1, by omega, rfl, ⟨rfl, rfl, rfl, rfl, rfl, rfl, rfl, rfl, rfl, rfl, rfl, rfl, rfl, rfl, rfl, rfl, rfl, rfl, by first | rfl | go_num⟩, ?_, HF3.out⟩
      rw [HN.out]
      exact HX3.out
    · have hfl : inact (ss j) = false := by unfold inact; rw [hr]; rfl
      rw [hfl] at hnx
      have kL : (aspB (ss j)).toList = [65, 83, 80, 45, 65, 67, 84, 73, 86, 69] := by unfold aspB; rw [hr]; kernel_rfl
      have HN : Hid (feed inact 131073 rc ss S (ms.take (q + 1)) = _) := hnx
      clear hfl hnx hr
      go_wp2_with fail
      refine (aspState_any (ss j) (hss j) w1).mono ?_
      rintro e w2 ⟨rfl, rfl⟩
      rw [aspS_eq]
      go_wp2_with fail
      refine ⟨ms.length - (q + 1), by omega, q + 1, by omega, rfl, ⟨rfl, rfl, rfl, rfl, rfl, rfl, rfl, rfl, rfl, rfl, rfl, rfl, rfl, rfl, rfl, rfl, rfl, rfl, by first | rfl | go_num⟩, ?_, HFr.out⟩
      rw [HN.out]
      exact HX.out
  · obtain rfl : q = ms.length := by omega
    have hI1 : ¬ (ms.length : Int) < (ms.length : Int) := by omega
    rw [List.take_length] at HX
    clear hend hX hX1 hFr hsrc hc0
    go_wp2_with fail
    exact HE.out _ _ ⟨rfl, rfl, rfl, rfl, rfl, rfl, rfl, rfl, rfl, rfl, rfl, rfl, rfl, rfl, rfl, rfl, rfl, rfl, rfl⟩ HX.out HFr.out
end Go.Proofs.YbulkbndkDoor.Pr
