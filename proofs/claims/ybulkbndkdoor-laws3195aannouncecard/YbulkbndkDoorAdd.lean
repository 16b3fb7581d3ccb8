/-
  association.add, association.send.
-/
import Derived.Test.YbulkbndkDoorBox
namespace Go.Proofs.YbulkbndkDoor.Pr
set_option linter.unusedSimpArgs false
open Go.ChangeShapes Go.WideShapes Go.ChangeAt Go.RowKit

def BX (B : Nat) (S : SS) (w : World) : Prop := ∃ pv bv mp, Bx B S pv bv mp w
theorem BX.fr {B : Nat} {S : SS} {w w' : World} {T : List TypeId} {B' : Nat} (h : BX B S w) (hF : Fr B' T w w') (h1 : 31 ∉ T) (h2 : 63 ∉ T) (h3 : 34 ∉ T) (h4 : 137 ∉ T) (h5 : 148 ∉ T) (h6 : 152 ∉ T) (h7 : 5 ∉ T) : BX B S w' := by
  obtain ⟨pv, bv, mp, h⟩ := h
  exact ⟨pv, bv, mp, h.fr hF h1 h2 h3 h4 h5 h6 h7⟩

def TB : List TypeId := [31, 63, 34, 137]
def q4 (p : Nat) (i : Nat) : Value := if i = 0 then ptr p else if i = 1 then .int .u64 0 else if i = 2 then .int .i64 0 else .pointer none
def qw (w : World) (p : Nat) : World := w.alloc (Obj.cells #[.pointer (some ⟨p, 0, none⟩), .int .u64 0, .int .i64 0, .pointer none] 137)
theorem qw_fr (w : World) (p : Nat) : Fr 0 [] w (qw w p) := (Fr.refl _ _ _).alloc _
theorem qw_row (w : World) (p : Nat) : (qw w p).rowIs w.heap.size 137 4 (q4 p) := row_new 4 rfl fun i hi => by
  have : i = 0 ∨ i = 1 ∨ i = 2 ∨ i = 3 := by omega
  rcases this with rfl | rfl | rfl | rfl <;> rfl

theorem add_fin {Q : Exit → Act → World → Prop} (B j p q : Nat) (hj : j < 4) (S : SS) (e : Nat × Nat) (w w1 : World) (S1 : SS) (pv1 : Value) (bv : Nat → Value) (mp : Nat → List Nat) (f1 : Act) (hB1 : Bx B S1 pv1 bv mp w1) (hF1 : Fr B TB w w1) (he1 : S1.ex = S.ex) (hm1 : IsMsg w1 p e.1 e.2) (hq1 : w1.rowIs q 137 4 (q4 p)) (hqB : ∀ k, (bv j).ownBlock = some k → k ≠ q)
    (ho1 : S1.od = (S.push j e).od) (hl : (mp j).length ≤ 1000000) (hs : f1.tmps.size = 36) (hd : f1.defers = []) (h0 : f1.tmps[0]?.getD undef = ptr (asb B j)) (h3 : f1.tmps[3]?.getD undef = ptr q)
    (hend : ∀ f' w', f'.tmps.size = 36 → f'.defers = [] → BX B (S.push j e) w' → Fr B TB w w' → Q .normal f' w') :
      Code.wp Ybad.prog ((Ybad.f24.body.bind (reg 3)).getD .skip) Q f1 w1 := by
  obtain ⟨f2, hf2, hf216, hf217⟩ := hB1.asc j hj
  have o2 := hB1.bat j hj
  rw [← hf217] at o2
  have nq : q ≠ asb B j := fun e => by
    obtain ⟨c1, h1⟩ := row_tag hq1
    obtain ⟨c2, h2⟩ := row_tag hf2
    exact tag_ne h1 h2 (by decide) e
  have nr : (f2 17).ownBlock ≠ some q := fun e => by rw [hf217] at e; exact hqB _ e rfl
  refine add_r3 (asb B j) q p f2 (mp j).length B (qcells (mp j)) f1 w1 (hq1.cell (i := 0) (by omega)) nq nr (hq1.cell (i := 1) (by omega)) nq nr (hq1.cell (i := 2) (by omega)) nq nr (hq1.cell (i := 3) (by omega)) nq nr hf2 o2 hl (own_ne hf2 o2 (by decide)) (by have := hB1.box.lt; omega) hs hd h0 h3 ?_
  intro f' w' gg cap hs' hd' _ hA
  obtain ⟨hB2, hF2⟩ := hB1.pushB hj hf2 hf216 hf217 hm1 hA
  have : S.push j e = ⟨fun i => if i = j then S1.ex j ++ [e] else S1.ex i, S1.od⟩ := by
    rw [ho1, he1]; rfl
  refine hend f' w' hs' hd' ?_ (hF1.trans (hF2.mono (by decide)))
  rw [this]
  exact ⟨_, _, _, hB2⟩

set_option maxRecDepth 100000 in
set_option maxHeartbeats 4000000 in
theorem add_any (B j p : Nat) (hj : j < 4) (S : SS) (e : Nat × Nat) (w : World) (h : BX B S w) (hm : IsMsg w p e.1 e.2) (hl : (S.ex j).length ≤ 1000000) (hl2 : S.od.length ≤ 1000000) :
    Calls Ybad.prog 24 #[.pointer (some ⟨asb B j, 0, none⟩), .agg #[.pointer (some ⟨p, 0, none⟩), .int .u64 0, .int .i64 0, .pointer none]] w fun e' w' => e' = .returned (.tuple #[]) ∧ BX B (S.push j e) w' ∧ Fr B TB w w' := by
  obtain ⟨pv, bv, mp, hB⟩ := h
  have hB0 := hB.fr (qw_fr w p) (by simp) (by simp) (by simp) (by simp) (by simp) (by simp) (by simp)
  have hm0 := hm.fr (qw_fr w p) (by simp) (by simp) (by simp)
  have hqB : ∀ k, (bv j).ownBlock = some k → k ≠ w.heap.size := fun k hk e => by have := ownsRow_lt (hB.bat j hj) k hk; omega
  have hqP : ∀ k, pv.ownBlock = some k → k ≠ w.heap.size := fun k hk e => by have := ownsRow_lt hB.pend k hk; omega
  obtain ⟨f, hf, hf16, hf17⟩ := hB.asc j hj
  obtain ⟨ba, bc, hbv, _⟩ := own_shape (hB.bat j hj)
  have c17 := hf.cell (i := 17) (by omega)
  rw [hf17, hbv] at c17
  have hlen := hB.len j hj
  have hsz2 : asb B j < w.heap.size := hf.lt
  have lbx : B < w.heap.size := hB.box.lt
  have HB0 : Hid (Bx B S pv bv mp (qw w p)) := hB0
  have HM0 : Hid (IsMsg (qw w p) p e.1 e.2) := hm0
  have HQB : Hid (∀ k, (bv j).ownBlock = some k → k ≠ w.heap.size) := hqB
  have HQP : Hid (∀ k, pv.ownBlock = some k → k ≠ w.heap.size) := hqP
  clear hB0 hm0 hqP hqB hf hf16 hf17 hB hm hbv
  by_cases hne : (mp j).length = 0
  · have hod : (S.push j e).od = S.od ++ [j] := by
      unfold SS.push
      have : S.ex j = [] := List.eq_nil_of_length_eq_zero (by omega)
      simp [this]
    rw [hne] at c17
    go_enter Ybad.func24, Ybad.ntmps24
    go_wp2_with fail
    rename_i K1 hK1
    obtain ⟨f, hf, hf16, hf17⟩ := HB0.out.asc j hj
    have c16 := hf.cell (i := 16) (by omega)
    rw [hf16] at c16
    refine add_r2 B (asb B j) (fun _ => pv) S.od.length B (S.od.map fun j => ptr (asb B j)) _ (qw w p) c16 (by unfold asb; omega) (own_ne hf HB0.out.pend (by decide)) HB0.out.box HB0.out.pend hl2 (own_ne HB0.out.box HB0.out.pend (by decide)) (by have := HB0.out.box.lt; omega) rfl rfl rfl ?_
    intro f' w' gg cap hs' hd' hold hA
    obtain ⟨hB2, hF2⟩ := HB0.out.pushP hA
    have hq := hF2.row (qw_row w p) (by decide)
    have hm2 := HM0.out.fr hF2 (by decide) (by decide) (by decide)
    have hFw : Fr B TB w w' := (qw_fr w p).none.trans (hF2.mono (by decide))
    have e0 : f'.tmps[0]?.getD undef = .pointer (some ⟨asb B j, 0, none⟩) := hold 0 (by omega)
    have e3 : f'.tmps[3]?.getD undef = .pointer (some ⟨w.heap.size, 0, none⟩) := hold 3 (by omega)
    obtain ⟨g, hg⟩ : ∃ g : Nat → Value, ∀ t, f'.tmps[t]?.getD undef = g t := ⟨_, fun _ => rfl⟩
    rw [hg] at e0 e3
    rw [lit36 f' g hg hs' hd', e0, e3]
    have HB2 : Hid (Bx B ⟨S.ex, S.od ++ [j]⟩ (.slice (some ⟨gg, 0, none⟩) (S.od.length + 1) cap) bv mp w') := hB2
    have HF2 : Hid (Fr B TB w w') := hFw
    have HM2 : Hid (IsMsg w' p e.1 e.2) := hm2
    have HQ2 : Hid (w'.rowIs w.heap.size 137 4 (q4 p)) := hq
    have HOD : Hid ((S.push j e).od = S.od ++ [j]) := hod
    clear hB2 hFw hF2 hm2 hq hold hA hf hf16 hf17 c16 c17 hod
    refine hK1 _ _ ?_
    clear hK1
    go_wp2_with fail
    refine add_fin B j p w.heap.size hj S e w w' _ _ bv mp _ HB2.out HF2.out rfl HM2.out HQ2.out HQB.out HOD.out.symm (by omega) rfl rfl rfl rfl ?_
    intro f2 w2 hs2 hd2 hX hFr
    obtain ⟨g2, hg2⟩ : ∃ g : Nat → Value, ∀ t, f2.tmps[t]?.getD undef = g t := ⟨_, fun _ => rfl⟩
    rw [lit36 f2 g2 hg2 hs2 hd2]
    have HX : Hid (BX B (S.push j e) w2) := hX
    have HFr : Hid (Fr B TB w w2) := hFr
    clear hX hFr hg2
    go_returns
    exact ⟨rfl, HX.out, HFr.out⟩
  · have hI : ((mp j).length : Int) ≠ 0 := by omega
    have hod : (S.push j e).od = S.od := by
      unfold SS.push
      have : S.ex j ≠ [] := fun h => by rw [h] at hlen; simp at hlen; rw [hlen] at hne; exact hne rfl
      simp [this]
    have HOD : Hid ((S.push j e).od = S.od) := hod
    clear hod
    go_enter Ybad.func24, Ybad.ntmps24
    go_wp2_with fail
    refine add_fin B j p w.heap.size hj S e w (qw w p) S pv bv mp _ HB0.out (qw_fr w p).none rfl HM0.out (qw_row w p) HQB.out HOD.out.symm (by omega) rfl rfl rfl rfl ?_
    intro f2 w2 hs2 hd2 hX hFr
    obtain ⟨g2, hg2⟩ : ∃ g : Nat → Value, ∀ t, f2.tmps[t]?.getD undef = g t := ⟨_, fun _ => rfl⟩
    rw [lit36 f2 g2 hg2 hs2 hd2]
    have HX : Hid (BX B (S.push j e) w2) := hX
    have HFr : Hid (Fr B TB w w2) := hFr
    clear hX hFr hg2
    go_returns
    exact ⟨rfl, HX.out, HFr.out⟩

set_option maxRecDepth 100000 in
theorem send_any (B j p : Nat) (hj : j < 4) (S : SS) (e : Nat × Nat) (w : World) (h : BX B S w) (hm : IsMsg w p e.1 e.2) (hl : (S.ex j).length ≤ 1000000) (hl2 : S.od.length ≤ 1000000) :
    Calls Ybad.prog 17 #[.pointer (some ⟨asb B j, 0, none⟩), .pointer (some ⟨p, 0, none⟩)] w fun e' w' => e' = .returned (.tuple #[]) ∧ BX B (S.push j e) w' ∧ Fr B TB w w' := by
  have H1 : Hid (BX B S w) := h
  have H2 : Hid (IsMsg w p e.1 e.2) := hm
  clear h hm
  go_enter Ybad.func17, Ybad.ntmps17
  go_wp2_with fail
  refine (add_any B j p hj S e w H1.out H2.out hl hl2).mono ?_
  rintro e' w1 ⟨rfl, hX, hF⟩
  have HX : Hid (BX B (S.push j e) w1) := hX
  have HF : Hid (Fr B TB w w1) := hF
  clear hX hF H1 H2
  go_wp2_with fail
  go_returns
  exact ⟨rfl, HX.out, HF.out⟩
end Go.Proofs.YbulkbndkDoor.Pr
