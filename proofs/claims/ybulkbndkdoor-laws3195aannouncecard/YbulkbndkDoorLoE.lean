/-
  The law's record of what it expects: the changed and the short servers.
-/
import Derived.Test.YbulkbndkDoorLoD
namespace Go.Proofs.YbulkbndkDoor.Pr
set_option linter.unusedSimpArgs false
set_option linter.unusedVariables false
open Go.ChangeShapes Go.WideShapes Go.ChangeAt Go.RowKit

def T6 : List TypeId := [92, 93, 3, 98, 90, 72]

def F6c (sa : Option Addr) (sc : Nat) (vb vc : Value) (B Sa n O X Od : Nat) (xa : Option Addr) (xc : Nat) (xs : List Nat) (i : Nat) (f : Act) : Prop := f.tmps.size = 368 ∧ f.defers = [] ∧ f.tmps[0]?.getD undef = .slice sa n sc ∧ f.tmps[1]?.getD undef = vb ∧ f.tmps[2]?.getD undef = vc ∧ f.tmps[8]?.getD undef = .pointer (some ⟨B, 0, none⟩) ∧ f.tmps[9]?.getD undef = .pointer (some ⟨B + 1, 0, none⟩) ∧ f.tmps[10]?.getD undef = .pointer (some ⟨B + 2, 0, none⟩) ∧ f.tmps[13]?.getD undef = .slice (some ⟨Sa, 0, none⟩) n n ∧ f.tmps[21]?.getD undef = .pointer (some ⟨O, 0, none⟩) ∧ f.tmps[22]?.getD undef = .pointer (some ⟨X, 0, none⟩) ∧ f.tmps[23]?.getD undef = .pointer (some ⟨Od, 0, none⟩) ∧ f.tmps[175]?.getD undef = .slice xa xs.length xc ∧ f.tmps[176]?.getD undef = .int .i64 (xs.length : Int) ∧ f.tmps[177]?.getD undef = .int .i64 (i : Int)
def I6c (sa : Option Addr) (sc : Nat) (vb vc : Value) (B Sa n O X Od : Nat) (xa : Option Addr) (xc : Nat) (xs : List Nat) (SV : Nat → Sv) (A : Nat → Nat) (S : SS) (w0 : World) (m : Nat) (f : Act) (w : World) : Prop :=
  ∃ i vv, i ≤ xs.length ∧ m = xs.length - i ∧ F6c sa sc vb vc B Sa n O X Od xa xc xs i f ∧ w.rowIs O 90 5 (oc vv (.slice none 0 0)) ∧ w.ownsRow (Sa + 1) 72 1 vv i (((xs.map (· % n)).take i).map fun c => ptr (A c)) ∧ w.rowIs Sa 72 n (fun k => if k < n then ptr (A k) else .pointer none) ∧
    EX B X Od (ann up (fun s => asN s.st) SV S ((xs.map (· % n)).take i)) w ∧ Fr B T6 w0 w

set_option maxRecDepth 100000 in
set_option maxHeartbeats 8000000 in
theorem loop6 {Q : Exit → Act → World → Prop} (sa : Option Addr) (sc : Nat) (vb vc : Value) (B Sa n O X Od : Nat) (xa : Option Addr) (xc : Nat) (xs : List Nat) (SV : Nat → Sv) (hO : ∀ i, (SV i).Ok) (A : Nat → Nat) (ma : Nat → Option Addr) (mc : Nat → Nat) (hn : n ≤ 64) (hpos : 0 < n) (hxl : xs.length ≤ 256) (hx : ∀ x ∈ xs, x < 256) (S : SS) (n0 : Nat) (hS : S.le n0) (hn0 : n0 ≤ 100000) (w : World) (hI : Inp B n SV sa ma mc w) (hsrc : Src1 B w xa xs) (hBO : B ≤ O) (hBS : B ≤ Sa) (hBw : Sa < w.heap.size)
    (hrow : w.rowIs O 90 5 (oc (.slice none 0 0) (.slice none 0 0))) (hases : w.rowIs Sa 72 n (fun k => if k < n then ptr (A k) else .pointer none)) (hX : EX B X Od S w) (f : Act) (hF : F6c sa sc vb vc B Sa n O X Od xa xc xs 0 f)
    (hend : ∀ f' w' vv, F6c sa sc vb vc B Sa n O X Od xa xc xs xs.length f' → w'.rowIs O 90 5 (oc vv (.slice none 0 0)) → w'.ownsRow (Sa + 1) 72 1 vv xs.length ((xs.map (· % n)).map fun c => ptr (A c)) → w'.rowIs Sa 72 n (fun k => if k < n then ptr (A k) else .pointer none) → EX B X Od (ann up (fun s => asN s.st) SV S (xs.map (· % n))) w' → Fr B T6 w w' → Q (.exit 10) f' w') :
    Code.wp Ybad.prog ((Ybad.f3.body.bind (blk 10)).getD .skip) Q f w := by
  conv => arg 2; whnf
  refine wp_loop_ghost (I6c sa sc vb vc B Sa n O X Od xa xc xs SV A S w) xs.length ⟨0, .slice none 0 0, Nat.zero_le _, rfl, hF, hrow, by simpa using World.ownsRow_nil w _ 72 1, hases, by simpa [ann] using hX, Fr.refl _ _ _⟩ ?_
  clear hF f hrow hases hX
  rintro m f w1 ⟨i, vv, hi, rfl, ⟨hsz, hds, e0, e1, e2, e8, e9, e10, e13, e21, e22, e23, e175, e176, e177⟩, hRow, hOwn, hAs, hX1, hFr⟩
  obtain ⟨g, hg⟩ : ∃ g : Nat → Value, ∀ t, f.tmps[t]?.getD undef = g t := ⟨_, fun _ => rfl⟩
  rw [hg] at e0 e1 e2 e8 e9 e10 e13 e21 e22 e23 e175 e176 e177
  rw [lit368 f g hg hsz hds, e0, e1, e2, e8, e9, e10, e13, e21, e22, e23, e175, e176, e177]
  clear hg hsz hds e0 e1 e2 e8 e9 e10 e13 e21 e22 e23 e175 e176 e177
  have HE : Hid (∀ f' w' vv, F6c sa sc vb vc B Sa n O X Od xa xc xs xs.length f' → w'.rowIs O 90 5 (oc vv (.slice none 0 0)) → w'.ownsRow (Sa + 1) 72 1 vv xs.length ((xs.map (· % n)).map fun c => ptr (A c)) → w'.rowIs Sa 72 n (fun k => if k < n then ptr (A k) else .pointer none) → EX B X Od (ann up (fun s => asN s.st) SV S (xs.map (· % n))) w' → Fr B T6 w w' → Q (.exit 10) f' w') := hend
  have HRow : Hid (w1.rowIs O 90 5 (oc vv (.slice none 0 0))) := hRow
  have HOwn : Hid (w1.ownsRow (Sa + 1) 72 1 vv i (((xs.map (· % n)).take i).map fun c => ptr (A c))) := hOwn
  have HAs : Hid (w1.rowIs Sa 72 n (fun k => if k < n then ptr (A k) else .pointer none)) := hAs
  have HX : Hid (EX B X Od (ann up (fun s => asN s.st) SV S ((xs.map (· % n)).take i)) w1) := hX1
  have HFr : Hid (Fr B T6 w w1) := hFr
  have hml : (xs.map (· % n)).length = xs.length := by simp
  by_cases hlt : i < xs.length
  · have hI0 : (0 : Int) ≤ (i : Int) := by omega
    have hI1 : (i : Int) < (xs.length : Int) := by omega
    obtain ⟨xb, xo, rfl, hxb, hxc⟩ := hsrc i xs[i] (List.getElem?_eq_getElem hlt)
    have hxx : xs[i] < 256 := hx _ (List.getElem_mem hlt)
    have htk : (xs.map (· % n)).take (i + 1) = (xs.map (· % n)).take i ++ [xs[i] % n] := by
      rw [take_snoc (by rw [hml]; exact hlt), List.getElem_map]
    have hnx : ann up (fun s => asN s.st) SV S ((xs.map (· % n)).take (i + 1)) = feed up ((fun s => asN s.st) (SV (xs[i] % n))) (SV (xs[i] % n)).rc (SV (xs[i] % n)).ss (ann up (fun s => asN s.st) SV S ((xs.map (· % n)).take i)) (SV (xs[i] % n)).ms := by
      rw [htk, ann_snoc]
    have hmp : ((xs.map (· % n)).take (i + 1)).map (fun c => ptr (A c)) = ((xs.map (· % n)).take i).map (fun c => ptr (A c)) ++ [ptr (A (xs[i] % n))] := by rw [htk, List.map_append]; rfl
    generalize xs[i] = x at *
    have hcx := hFr.cellLow hxb hxc
    obtain ⟨k, hkd⟩ : ∃ k, k = x % n := ⟨_, rfl⟩
    rw [← hkd] at hnx hmp
    have hk : k < n := by rw [hkd]; exact Nat.mod_lt _ hpos
    have hkm : (x : Int) % (n : Int) = (k : Int) := by rw [hkd]; push_cast; rfl
    have hx0 : (0 : Int) ≤ (x : Int) := by omega
    have hn0' : (n : Int) ≠ 0 := by omega
    have hwr : IntKind.i64.wrap (x : Int) = (x : Int) := by rw [IntKind.wrap_i64]; omega
    have htm : (x : Int).tmod (n : Int) = (k : Int) := by rw [Int.tmod_eq_emod_of_nonneg hx0]; exact hkm
    have hle := ann_le (flt := up) (sel := (fun s => asN s.st)) (SV := SV) ((xs.map (· % n)).take i) (fun c _ => hO c) hS
    have htl : ((xs.map (· % n)).take i).length ≤ 256 := by rw [List.length_take]; omega
    have HL : Hid ((ann up (fun s => asN s.st) SV S ((xs.map (· % n)).take i)).le (n0 + 256 * ((xs.map (· % n)).take i).length) ∧ ((xs.map (· % n)).take i).length ≤ 256) := ⟨hle, htl⟩
    have HN : Hid (ann up (fun s => asN s.st) SV S ((xs.map (· % n)).take (i + 1)) = feed up (asN (SV k).st) (SV k).rc (SV k).ss (ann up (fun s => asN s.st) SV S ((xs.map (· % n)).take i)) (SV k).ms) := hnx
    have HP : Hid (((xs.map (· % n)).take (i + 1)).map (fun c => ptr (A c)) = ((xs.map (· % n)).take i).map (fun c => ptr (A c)) ++ [ptr (A k)]) := hmp
    have HI : Hid (Inp B n SV sa ma mc w1) := hI.fr hFr
    have HO : Hid ((SV k).Ok) := hO k
    have HK : Hid ((x : Int) % (n : Int) = (k : Int)) := hkm
    have HKK : Hid (k < n ∧ k = x % n) := ⟨hk, hkd⟩
    clear hend hRow hOwn hAs hX1 hFr hI hsrc hxc hkd hle htl hnx hmp htk hkm hO hS
    go_wp2_with fail
    rename_i K1 hK1
    have cA := HAs.out.cell hk
    rw [if_pos hk] at cA
    have nSO : Sa ≠ O := fun e => by
      obtain ⟨c1, h1⟩ := row_tag HAs.out
      obtain ⟨c2, h2⟩ := row_tag HRow.out
      exact tag_ne h1 h2 (by decide) e
    have nSv : ∀ g, vv.ownBlock = some g → g ≠ Sa := fun g hg e => by
      have := (ownsRow_tag HOwn.out g hg).1
      omega
    have hw1 := HFr.out.size
    refine law_r42 O Sa n k (A k) (oc vv (.slice none 0 0)) i (Sa + 1) _ _ w1 hk cA nSO (fun e => nSv _ e rfl) HRow.out HOwn.out (by omega) (own_ne HRow.out HOwn.out (by decide)) (by omega) rfl rfl rfl rfl rfl ?_
    intro f2 w2 gg cap hsz hds hold hA2
    have e0 : f2.tmps[0]?.getD undef = .slice sa n sc := hold 0 (by omega)
    have e1 : f2.tmps[1]?.getD undef = vb := hold 1 (by omega)
    have e2 : f2.tmps[2]?.getD undef = vc := hold 2 (by omega)
    have e8 : f2.tmps[8]?.getD undef = .pointer (some ⟨B, 0, none⟩) := hold 8 (by omega)
    have e9 : f2.tmps[9]?.getD undef = .pointer (some ⟨B + 1, 0, none⟩) := hold 9 (by omega)
    have e10 : f2.tmps[10]?.getD undef = .pointer (some ⟨B + 2, 0, none⟩) := hold 10 (by omega)
    have e13 : f2.tmps[13]?.getD undef = .slice (some ⟨Sa, 0, none⟩) n n := hold 13 (by omega)
    have e21 : f2.tmps[21]?.getD undef = .pointer (some ⟨O, 0, none⟩) := hold 21 (by omega)
    have e22 : f2.tmps[22]?.getD undef = .pointer (some ⟨X, 0, none⟩) := hold 22 (by omega)
    have e23 : f2.tmps[23]?.getD undef = .pointer (some ⟨Od, 0, none⟩) := hold 23 (by omega)
    have e175 : f2.tmps[175]?.getD undef = .slice (some ⟨xb, xo, none⟩) xs.length xc := hold 175 (by omega)
    have e176 : f2.tmps[176]?.getD undef = .int .i64 (xs.length : Int) := hold 176 (by omega)
    have e177 : f2.tmps[177]?.getD undef = .int .i64 (i : Int) := hold 177 (by omega)
    have e26 : f2.tmps[26]?.getD undef = .int .i64 (k : Int) := hold 26 (by omega)
    obtain ⟨g2, hg2⟩ : ∃ g2 : Nat → Value, ∀ t, f2.tmps[t]?.getD undef = g2 t := ⟨_, fun _ => rfl⟩
    rw [hg2] at e0 e1 e2 e8 e9 e10 e13 e21 e22 e23 e175 e176 e177 e26
    rw [lit368 f2 g2 hg2 hsz hds, e0, e1, e2, e8, e9, e10, e13, e21, e22, e23, e175, e176, e177, e26]
    clear hg2 hsz hds e0 e1 e2 e8 e9 e10 e13 e21 e22 e23 e175 e176 e177 e26
    have hF2 : Fr B [90, 72] w1 w2 := hA2.fr HRow.out HOwn.out hBO (by omega)
    have hRow2 : w2.rowIs O 90 5 (oc (.slice (some ⟨gg, 0, none⟩) (i + 1) cap) (.slice none 0 0)) := row_congr hA2.row (fun c hc => by
      have : c = 0 ∨ c = 1 ∨ c = 2 ∨ c = 3 ∨ c = 4 := by omega
      rcases this with rfl | rfl | rfl | rfl | rfl <;> rfl)
    have hAs2 : w2.rowIs Sa 72 n (fun k => if k < n then ptr (A k) else .pointer none) := HAs.out.of_block (hA2.keeps.block Sa HAs.out.lt (by rintro (e | e); exact nSO e; exact nSv _ e rfl))
    have hOwn2 : w2.ownsRow (Sa + 1) 72 1 (.slice (some ⟨gg, 0, none⟩) (i + 1) cap) (i + 1) (((xs.map (· % n)).take (i + 1)).map fun c => ptr (A c)) := by rw [HP.out]; exact hA2.owns
    have HF2 : Hid (Fr B [90, 72] w1 w2) := hF2
    have HRow2 : Hid (w2.rowIs O 90 5 (oc (.slice (some ⟨gg, 0, none⟩) (i + 1) cap) (.slice none 0 0))) := hRow2
    have HAs2 : Hid (w2.rowIs Sa 72 n (fun k => if k < n then ptr (A k) else .pointer none)) := hAs2
    have HOwn2 : Hid (w2.ownsRow (Sa + 1) 72 1 (.slice (some ⟨gg, 0, none⟩) (i + 1) cap) (i + 1) (((xs.map (· % n)).take (i + 1)).map fun c => ptr (A c))) := hOwn2
    have HX2 : Hid (EX B X Od (ann up (fun s => asN s.st) SV S ((xs.map (· % n)).take i)) w2) := HX.out.fr hF2 (by decide) (by decide) (by decide) (by decide)
    have HI2 : Hid (Inp B n SV sa ma mc w2) := HI.out.fr hF2
    have hwsz : w1.heap.size ≤ w2.heap.size := hF2.size
    obtain ⟨sb, so, rfl, hsb, d0, d1, d2, d3⟩ := HI2.out.srv k hk
    have hst := HO.out.st
    have hk0 : (0 : Int) ≤ (k : Int) := by omega
    have hk1 : (k : Int) < (n : Int) := by omega
    have HD : Hid (sb < B ∧ w2.cell? ⟨sb, so + k * 7, none⟩ = some (.int .u32 ((SV k).rc : Int)) ∧ ∀ j, j < 4 → w2.cell? ⟨sb, so + k * 7 + 3 + j, none⟩ = some (.int .u8 ((SV k).ss j : Int))) := ⟨hsb, d0, d3⟩
    clear hold hA2 hF2 hRow2 hAs2 hOwn2 nSv cA hcx hwr htm d0 d3
    refine hK1 _ _ ?_
    clear hK1
    go_wp2_with fail
    refine (asState_any (SV k).st hst w2).mono ?_
    rintro e w3 ⟨rfl, rfl⟩
    obtain ⟨sx, hsx⟩ := asS_str (SV k).st
    rw [hsx]
    clear hsx
    go_wp2_with fail
    rename_i K2 hK2
    refine loop7 (some ⟨sb, so, none⟩) sc vb vc B Sa n O X Od (.slice (some ⟨xb, xo, none⟩) xs.length xc) xs.length i k (asN (SV k).st) (ma k) (mc k) (SV k).ms (SV k).rc (SV k).ss HO.out.ss HO.out.ms HO.out.len hk _ _ HL.out.1 (by have := HL.out.2; omega) w3 HX2.out (by omega) (HI2.out.mem k hk) ⟨sb, so, rfl, HD.out.1, HD.out.2.1, HD.out.2.2⟩ _ ⟨rfl, rfl, rfl, rfl, rfl, rfl, rfl, rfl, rfl, rfl, rfl, rfl, rfl, rfl, rfl, rfl, rfl, rfl, rfl, rfl⟩ ?_
    rintro f3 w4 ⟨hsz, hds, e0, e1, e2, e8, e9, e10, e13, e21, e22, e23, e175, e176, e177, e26, e28, e208, e209, e210⟩ hX4 hF4
    obtain ⟨g3, hg3⟩ : ∃ g3 : Nat → Value, ∀ t, f3.tmps[t]?.getD undef = g3 t := ⟨_, fun _ => rfl⟩
    rw [hg3] at e0 e1 e2 e8 e9 e10 e13 e21 e22 e23 e175 e176 e177 e26 e28 e208 e209 e210
    rw [lit368 f3 g3 hg3 hsz hds, e0, e1, e2, e8, e9, e10, e13, e21, e22, e23, e175, e176, e177, e26, e28, e208, e209, e210]
    clear hg3 hsz hds e0 e1 e2 e8 e9 e10 e13 e21 e22 e23 e175 e176 e177 e26 e28 e208 e209 e210
    have HX4 : Hid (EX B X Od (ann up (fun s => asN s.st) SV S ((xs.map (· % n)).take (i + 1))) w4) := by rw [HN.out]; exact hX4
    have HF4 : Hid (Fr B TE w3 w4) := hF4
    clear hX4 hF4 d1 d2
    first | refine hK2 _ _ ?_ | skip
    clear hK2
    go_wp2_with fail
    exact ⟨xs.length - (i + 1), by omega, i + 1, _, by omega, rfl, ⟨rfl, rfl, rfl, rfl, rfl, rfl, rfl, rfl, rfl, rfl, rfl, rfl, rfl, rfl, by first | rfl | go_num⟩, HF4.out.row HRow2.out (by decide), HF4.out.owns HOwn2.out (by decide), HF4.out.row HAs2.out (by decide), HX4.out, (HFr.out.trans (HF2.out.mono (by decide))).trans (HF4.out.mono (by decide))⟩
  · obtain rfl : i = xs.length := by omega
    have hI1 : ¬ (xs.length : Int) < (xs.length : Int) := by omega
    rw [← hml, List.take_length, hml] at HOwn
    rw [← hml, List.take_length] at HX
    clear hend hRow hOwn hAs hX1 hFr hI hsrc
    go_wp2_with fail
    exact HE.out _ _ vv ⟨rfl, rfl, rfl, rfl, rfl, rfl, rfl, rfl, rfl, rfl, rfl, rfl, rfl, rfl, rfl⟩ HRow.out HOwn.out HAs.out HX.out HFr.out

def F8c (sa : Option Addr) (sc : Nat) (vb vc : Value) (B Sa n O X Od : Nat) (xa : Option Addr) (xc : Nat) (xs : List Nat) (i : Nat) (f : Act) : Prop := f.tmps.size = 368 ∧ f.defers = [] ∧ f.tmps[0]?.getD undef = .slice sa n sc ∧ f.tmps[1]?.getD undef = vb ∧ f.tmps[2]?.getD undef = vc ∧ f.tmps[8]?.getD undef = .pointer (some ⟨B, 0, none⟩) ∧ f.tmps[9]?.getD undef = .pointer (some ⟨B + 1, 0, none⟩) ∧ f.tmps[10]?.getD undef = .pointer (some ⟨B + 2, 0, none⟩) ∧ f.tmps[13]?.getD undef = .slice (some ⟨Sa, 0, none⟩) n n ∧ f.tmps[21]?.getD undef = .pointer (some ⟨O, 0, none⟩) ∧ f.tmps[22]?.getD undef = .pointer (some ⟨X, 0, none⟩) ∧ f.tmps[23]?.getD undef = .pointer (some ⟨Od, 0, none⟩) ∧ f.tmps[242]?.getD undef = .slice xa xs.length xc ∧ f.tmps[243]?.getD undef = .int .i64 (xs.length : Int) ∧ f.tmps[244]?.getD undef = .int .i64 (i : Int)
def I8c (sa : Option Addr) (sc : Nat) (vb vc : Value) (B Sa n O X Od : Nat) (xa : Option Addr) (xc : Nat) (xs : List Nat) (cv0 : Value) (cs0 : List Nat) (SV : Nat → Sv) (A : Nat → Nat) (S : SS) (w0 : World) (m : Nat) (f : Act) (w : World) : Prop :=
  ∃ i vv, i ≤ xs.length ∧ m = xs.length - i ∧ F8c sa sc vb vc B Sa n O X Od xa xc xs i f ∧ w.rowIs O 90 5 (oc cv0 vv) ∧ w.ownsRow w0.heap.size 72 1 vv i (((xs.map (· % n)).take i).map fun c => ptr (A c)) ∧ w.rowIs Sa 72 n (fun k => if k < n then ptr (A k) else .pointer none) ∧
    EX B X Od (ann inact (fun _ => 131073) SV S ((xs.map (· % n)).take i)) w ∧ Fr B T6 w0 w ∧ w.ownsRow (Sa + 1) 72 1 cv0 cs0.length (cs0.map fun c => ptr (A c))

set_option maxRecDepth 100000 in
set_option maxHeartbeats 8000000 in
theorem loop8 {Q : Exit → Act → World → Prop} (sa : Option Addr) (sc : Nat) (vb vc : Value) (B Sa n O X Od : Nat) (xa : Option Addr) (xc : Nat) (xs : List Nat) (cv0 : Value) (cs0 : List Nat) (SV : Nat → Sv) (hO : ∀ i, (SV i).Ok) (A : Nat → Nat) (ma : Nat → Option Addr) (mc : Nat → Nat) (hn : n ≤ 64) (hpos : 0 < n) (hxl : xs.length ≤ 256) (hx : ∀ x ∈ xs, x < 256) (S : SS) (n0 : Nat) (hS : S.le n0) (hn0 : n0 ≤ 100000) (w : World) (hI : Inp B n SV sa ma mc w) (hsrc : Src1 B w xa xs) (hcv0 : w.ownsRow (Sa + 1) 72 1 cv0 cs0.length (cs0.map fun c => ptr (A c))) (hBO : B ≤ O) (hBS : B ≤ Sa) (hBw : Sa < w.heap.size)
    (hrow : w.rowIs O 90 5 (oc cv0 (.slice none 0 0))) (hases : w.rowIs Sa 72 n (fun k => if k < n then ptr (A k) else .pointer none)) (hX : EX B X Od S w) (f : Act) (hF : F8c sa sc vb vc B Sa n O X Od xa xc xs 0 f)
    (hend : ∀ f' w' vv, F8c sa sc vb vc B Sa n O X Od xa xc xs xs.length f' → w'.rowIs O 90 5 (oc cv0 vv) → w'.ownsRow w.heap.size 72 1 vv xs.length ((xs.map (· % n)).map fun c => ptr (A c)) → w'.rowIs Sa 72 n (fun k => if k < n then ptr (A k) else .pointer none) → EX B X Od (ann inact (fun _ => 131073) SV S (xs.map (· % n))) w' → Fr B T6 w w' → w'.ownsRow (Sa + 1) 72 1 cv0 cs0.length (cs0.map fun c => ptr (A c)) → Q (.exit 14) f' w') :
    Code.wp Ybad.prog ((Ybad.f3.body.bind (blk 14)).getD .skip) Q f w := by
  conv => arg 2; whnf
  refine wp_loop_ghost (I8c sa sc vb vc B Sa n O X Od xa xc xs cv0 cs0 SV A S w) xs.length ⟨0, .slice none 0 0, Nat.zero_le _, rfl, hF, hrow, by simpa using World.ownsRow_nil w _ 72 1, hases, by simpa [ann] using hX, Fr.refl _ _ _, hcv0⟩ ?_
  clear hF f hrow hases hX
  rintro m f w1 ⟨i, vv, hi, rfl, ⟨hsz, hds, e0, e1, e2, e8, e9, e10, e13, e21, e22, e23, e242, e243, e244⟩, hRow, hOwn, hAs, hX1, hFr, hCv⟩
  obtain ⟨g, hg⟩ : ∃ g : Nat → Value, ∀ t, f.tmps[t]?.getD undef = g t := ⟨_, fun _ => rfl⟩
  rw [hg] at e0 e1 e2 e8 e9 e10 e13 e21 e22 e23 e242 e243 e244
  rw [lit368 f g hg hsz hds, e0, e1, e2, e8, e9, e10, e13, e21, e22, e23, e242, e243, e244]
  clear hg hsz hds e0 e1 e2 e8 e9 e10 e13 e21 e22 e23 e242 e243 e244
  have HE : Hid (∀ f' w' vv, F8c sa sc vb vc B Sa n O X Od xa xc xs xs.length f' → w'.rowIs O 90 5 (oc cv0 vv) → w'.ownsRow w.heap.size 72 1 vv xs.length ((xs.map (· % n)).map fun c => ptr (A c)) → w'.rowIs Sa 72 n (fun k => if k < n then ptr (A k) else .pointer none) → EX B X Od (ann inact (fun _ => 131073) SV S (xs.map (· % n))) w' → Fr B T6 w w' → w'.ownsRow (Sa + 1) 72 1 cv0 cs0.length (cs0.map fun c => ptr (A c)) → Q (.exit 14) f' w') := hend
  have HRow : Hid (w1.rowIs O 90 5 (oc cv0 vv)) := hRow
  have HOwn : Hid (w1.ownsRow w.heap.size 72 1 vv i (((xs.map (· % n)).take i).map fun c => ptr (A c))) := hOwn
  have HAs : Hid (w1.rowIs Sa 72 n (fun k => if k < n then ptr (A k) else .pointer none)) := hAs
  have HX : Hid (EX B X Od (ann inact (fun _ => 131073) SV S ((xs.map (· % n)).take i)) w1) := hX1
  have HFr : Hid (Fr B T6 w w1) := hFr
  have HCv : Hid (w1.ownsRow (Sa + 1) 72 1 cv0 cs0.length (cs0.map fun c => ptr (A c))) := hCv
  have hml : (xs.map (· % n)).length = xs.length := by simp
  by_cases hlt : i < xs.length
  · have hI0 : (0 : Int) ≤ (i : Int) := by omega
    have hI1 : (i : Int) < (xs.length : Int) := by omega
    obtain ⟨xb, xo, rfl, hxb, hxc⟩ := hsrc i xs[i] (List.getElem?_eq_getElem hlt)
    have hxx : xs[i] < 256 := hx _ (List.getElem_mem hlt)
    have htk : (xs.map (· % n)).take (i + 1) = (xs.map (· % n)).take i ++ [xs[i] % n] := by
      rw [take_snoc (by rw [hml]; exact hlt), List.getElem_map]
    have hnx : ann inact (fun _ => 131073) SV S ((xs.map (· % n)).take (i + 1)) = feed inact ((fun _ => 131073) (SV (xs[i] % n))) (SV (xs[i] % n)).rc (SV (xs[i] % n)).ss (ann inact (fun _ => 131073) SV S ((xs.map (· % n)).take i)) (SV (xs[i] % n)).ms := by
      rw [htk, ann_snoc]
    have hmp : ((xs.map (· % n)).take (i + 1)).map (fun c => ptr (A c)) = ((xs.map (· % n)).take i).map (fun c => ptr (A c)) ++ [ptr (A (xs[i] % n))] := by rw [htk, List.map_append]; rfl
    generalize xs[i] = x at *
    have hcx := hFr.cellLow hxb hxc
    obtain ⟨k, hkd⟩ : ∃ k, k = x % n := ⟨_, rfl⟩
    rw [← hkd] at hnx hmp
    have hk : k < n := by rw [hkd]; exact Nat.mod_lt _ hpos
    have hkm : (x : Int) % (n : Int) = (k : Int) := by rw [hkd]; push_cast; rfl
    have hx0 : (0 : Int) ≤ (x : Int) := by omega
    have hn0' : (n : Int) ≠ 0 := by omega
    have hwr : IntKind.i64.wrap (x : Int) = (x : Int) := by rw [IntKind.wrap_i64]; omega
    have htm : (x : Int).tmod (n : Int) = (k : Int) := by rw [Int.tmod_eq_emod_of_nonneg hx0]; exact hkm
    have hle := ann_le (flt := inact) (sel := (fun _ => 131073)) (SV := SV) ((xs.map (· % n)).take i) (fun c _ => hO c) hS
    have htl : ((xs.map (· % n)).take i).length ≤ 256 := by rw [List.length_take]; omega
    have HL : Hid ((ann inact (fun _ => 131073) SV S ((xs.map (· % n)).take i)).le (n0 + 256 * ((xs.map (· % n)).take i).length) ∧ ((xs.map (· % n)).take i).length ≤ 256) := ⟨hle, htl⟩
    have HN : Hid (ann inact (fun _ => 131073) SV S ((xs.map (· % n)).take (i + 1)) = feed inact 131073 (SV k).rc (SV k).ss (ann inact (fun _ => 131073) SV S ((xs.map (· % n)).take i)) (SV k).ms) := hnx
    have HP : Hid (((xs.map (· % n)).take (i + 1)).map (fun c => ptr (A c)) = ((xs.map (· % n)).take i).map (fun c => ptr (A c)) ++ [ptr (A k)]) := hmp
    have HI : Hid (Inp B n SV sa ma mc w1) := hI.fr hFr
    have HO : Hid ((SV k).Ok) := hO k
    have HK : Hid ((x : Int) % (n : Int) = (k : Int)) := hkm
    have HKK : Hid (k < n ∧ k = x % n) := ⟨hk, hkd⟩
    clear hend hRow hOwn hAs hX1 hFr hI hsrc hxc hkd hle htl hnx hmp htk hkm hO hS hCv
    go_wp2_with fail
    rename_i K1 hK1
    have cA := HAs.out.cell hk
    rw [if_pos hk] at cA
    have nSO : Sa ≠ O := fun e => by
      obtain ⟨c1, h1⟩ := row_tag HAs.out
      obtain ⟨c2, h2⟩ := row_tag HRow.out
      exact tag_ne h1 h2 (by decide) e
    have nSv : ∀ g, vv.ownBlock = some g → g ≠ Sa := fun g hg e => by
      have := (ownsRow_tag HOwn.out g hg).1
      omega
    have hw1 := HFr.out.size
    refine law_r57 O Sa n k (A k) (oc cv0 vv) i w.heap.size _ _ w1 hk cA nSO (fun e => nSv _ e rfl) HRow.out HOwn.out (by omega) (own_ne HRow.out HOwn.out (by decide)) (by omega) rfl rfl rfl rfl rfl ?_
    intro f2 w2 gg cap hsz hds hold hA2
    have e0 : f2.tmps[0]?.getD undef = .slice sa n sc := hold 0 (by omega)
    have e1 : f2.tmps[1]?.getD undef = vb := hold 1 (by omega)
    have e2 : f2.tmps[2]?.getD undef = vc := hold 2 (by omega)
    have e8 : f2.tmps[8]?.getD undef = .pointer (some ⟨B, 0, none⟩) := hold 8 (by omega)
    have e9 : f2.tmps[9]?.getD undef = .pointer (some ⟨B + 1, 0, none⟩) := hold 9 (by omega)
    have e10 : f2.tmps[10]?.getD undef = .pointer (some ⟨B + 2, 0, none⟩) := hold 10 (by omega)
    have e13 : f2.tmps[13]?.getD undef = .slice (some ⟨Sa, 0, none⟩) n n := hold 13 (by omega)
    have e21 : f2.tmps[21]?.getD undef = .pointer (some ⟨O, 0, none⟩) := hold 21 (by omega)
    have e22 : f2.tmps[22]?.getD undef = .pointer (some ⟨X, 0, none⟩) := hold 22 (by omega)
    have e23 : f2.tmps[23]?.getD undef = .pointer (some ⟨Od, 0, none⟩) := hold 23 (by omega)
    have e242 : f2.tmps[242]?.getD undef = .slice (some ⟨xb, xo, none⟩) xs.length xc := hold 242 (by omega)
    have e243 : f2.tmps[243]?.getD undef = .int .i64 (xs.length : Int) := hold 243 (by omega)
    have e244 : f2.tmps[244]?.getD undef = .int .i64 (i : Int) := hold 244 (by omega)
    have e35 : f2.tmps[35]?.getD undef = .int .i64 (k : Int) := hold 35 (by omega)
    obtain ⟨g2, hg2⟩ : ∃ g2 : Nat → Value, ∀ t, f2.tmps[t]?.getD undef = g2 t := ⟨_, fun _ => rfl⟩
    rw [hg2] at e0 e1 e2 e8 e9 e10 e13 e21 e22 e23 e242 e243 e244 e35
    rw [lit368 f2 g2 hg2 hsz hds, e0, e1, e2, e8, e9, e10, e13, e21, e22, e23, e242, e243, e244, e35]
    clear hg2 hsz hds e0 e1 e2 e8 e9 e10 e13 e21 e22 e23 e242 e243 e244 e35
    have hF2 : Fr B [90, 72] w1 w2 := hA2.fr HRow.out HOwn.out hBO (by omega)
    have hRow2 : w2.rowIs O 90 5 (oc cv0 (.slice (some ⟨gg, 0, none⟩) (i + 1) cap)) := row_congr hA2.row (fun c hc => by
      have : c = 0 ∨ c = 1 ∨ c = 2 ∨ c = 3 ∨ c = 4 := by omega
      rcases this with rfl | rfl | rfl | rfl | rfl <;> rfl)
    have hAs2 : w2.rowIs Sa 72 n (fun k => if k < n then ptr (A k) else .pointer none) := HAs.out.of_block (hA2.keeps.block Sa HAs.out.lt (by rintro (e | e); exact nSO e; exact nSv _ e rfl))
    have hOwn2 : w2.ownsRow w.heap.size 72 1 (.slice (some ⟨gg, 0, none⟩) (i + 1) cap) (i + 1) (((xs.map (· % n)).take (i + 1)).map fun c => ptr (A c)) := by rw [HP.out]; exact hA2.owns
    have HF2 : Hid (Fr B [90, 72] w1 w2) := hF2
    have HRow2 : Hid (w2.rowIs O 90 5 (oc cv0 (.slice (some ⟨gg, 0, none⟩) (i + 1) cap))) := hRow2
    have HAs2 : Hid (w2.rowIs Sa 72 n (fun k => if k < n then ptr (A k) else .pointer none)) := hAs2
    have HOwn2 : Hid (w2.ownsRow w.heap.size 72 1 (.slice (some ⟨gg, 0, none⟩) (i + 1) cap) (i + 1) (((xs.map (· % n)).take (i + 1)).map fun c => ptr (A c))) := hOwn2
    have HX2 : Hid (EX B X Od (ann inact (fun _ => 131073) SV S ((xs.map (· % n)).take i)) w2) := HX.out.fr hF2 (by decide) (by decide) (by decide) (by decide)
    have HI2 : Hid (Inp B n SV sa ma mc w2) := HI.out.fr hF2
    have HCv2 : Hid (w2.ownsRow (Sa + 1) 72 1 cv0 cs0.length (cs0.map fun c => ptr (A c))) := ownsRow_of_block HCv.out fun j hj => hA2.keeps.block j (ownsRow_lt HCv.out j hj) (by
      rintro (e | e)
      · exact ne_of_tags HRow.out HCv.out (by decide) hj e
      · have h1 := (ownsRow_tag HOwn.out j e).1
        have h2 := ownsRow_lt hcv0 j hj
        omega)
    have hwsz : w1.heap.size ≤ w2.heap.size := hF2.size
    obtain ⟨sb, so, rfl, hsb, d0, d1, d2, d3⟩ := HI2.out.srv k hk
    have hst := HO.out.st
    have hk0 : (0 : Int) ≤ (k : Int) := by omega
    have hk1 : (k : Int) < (n : Int) := by omega
    have HD : Hid (sb < B ∧ w2.cell? ⟨sb, so + k * 7, none⟩ = some (.int .u32 ((SV k).rc : Int)) ∧ ∀ j, j < 4 → w2.cell? ⟨sb, so + k * 7 + 3 + j, none⟩ = some (.int .u8 ((SV k).ss j : Int))) := ⟨hsb, d0, d3⟩
    clear hold hA2 hF2 hRow2 hAs2 hOwn2 nSv cA hcx hwr htm d0 d3
    refine hK1 _ _ ?_
    clear hK1
    go_wp2_with fail
    obtain ⟨w3, hw3⟩ : ∃ w3, w3 = w2 := ⟨_, rfl⟩
    subst hw3
    rename_i K2 hK2
    refine loop9 (some ⟨sb, so, none⟩) sc vb vc B Sa n O X Od (.slice (some ⟨xb, xo, none⟩) xs.length xc) xs.length i k 0 (ma k) (mc k) (SV k).ms (SV k).rc (SV k).ss HO.out.ss HO.out.ms HO.out.len hk _ _ HL.out.1 (by have := HL.out.2; omega) w3 HX2.out (by omega) (HI2.out.mem k hk) ⟨sb, so, rfl, HD.out.1, HD.out.2.1, HD.out.2.2⟩ _ ⟨rfl, rfl, rfl, rfl, rfl, rfl, rfl, rfl, rfl, rfl, rfl, rfl, rfl, rfl, rfl, rfl, rfl, rfl, rfl⟩ ?_
    rintro f3 w4 ⟨hsz, hds, e0, e1, e2, e8, e9, e10, e13, e21, e22, e23, e242, e243, e244, e35, e266, e267, e268⟩ hX4 hF4
    obtain ⟨g3, hg3⟩ : ∃ g3 : Nat → Value, ∀ t, f3.tmps[t]?.getD undef = g3 t := ⟨_, fun _ => rfl⟩
    rw [hg3] at e0 e1 e2 e8 e9 e10 e13 e21 e22 e23 e242 e243 e244 e35 e266 e267 e268
    rw [lit368 f3 g3 hg3 hsz hds, e0, e1, e2, e8, e9, e10, e13, e21, e22, e23, e242, e243, e244, e35, e266, e267, e268]
    clear hg3 hsz hds e0 e1 e2 e8 e9 e10 e13 e21 e22 e23 e242 e243 e244 e35 e266 e267 e268
    have HX4 : Hid (EX B X Od (ann inact (fun _ => 131073) SV S ((xs.map (· % n)).take (i + 1))) w4) := by rw [HN.out]; exact hX4
    have HF4 : Hid (Fr B TE w3 w4) := hF4
    clear hX4 hF4 d1 d2
    first | refine hK2 _ _ ?_ | skip
    clear hK2
    go_wp2_with fail
    exact ⟨xs.length - (i + 1), by omega, i + 1, _, by omega, rfl, ⟨rfl, rfl, rfl, rfl, rfl, rfl, rfl, rfl, rfl, rfl, rfl, rfl, rfl, rfl, by first | rfl | go_num⟩, HF4.out.row HRow2.out (by decide), HF4.out.owns HOwn2.out (by decide), HF4.out.row HAs2.out (by decide), HX4.out, (HFr.out.trans (HF2.out.mono (by decide))).trans (HF4.out.mono (by decide)), HF4.out.owns HCv2.out (by decide)⟩
  · obtain rfl : i = xs.length := by omega
    have hI1 : ¬ (xs.length : Int) < (xs.length : Int) := by omega
    rw [← hml, List.take_length, hml] at HOwn
    rw [← hml, List.take_length] at HX
    clear hend hRow hOwn hAs hX1 hFr hI hsrc hCv hcv0
    go_wp2_with fail
    exact HE.out _ _ vv ⟨rfl, rfl, rfl, rfl, rfl, rfl, rfl, rfl, rfl, rfl, rfl, rfl, rfl, rfl, rfl⟩ HRow.out HOwn.out HAs.out HX.out HFr.out HCv.out
end Go.Proofs.YbulkbndkDoor.Pr
