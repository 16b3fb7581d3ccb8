/-
  'propagate' (function 12), the whole function.
-/
import Derived.Test.YbulkbnbgDoorRound
namespace Go.Proofs.YbulkbnbgDoor.Pr
set_option linter.unusedSimpArgs false
open Go.ChangeShapes Go.WideShapes Go.ChangeAt Go.RowKit

theorem Mn.refl {c : Cfg} {T : Nat → Nat → Prop} {s : PS} {w : World} (hS : St c s w) (hI : Inv c T s) (hTab : Tab w) (hPos : Pos c s) : Mn c T s w s w := ⟨hS, hI, hTab, hPos, ExtB.refl _ _, Fr.refl _ _ _⟩
theorem Mn.trans {c : Cfg} {T : Nat → Nat → Prop} {s0 s1 s2 : PS} {w0 w1 w2 : World} (h : Mn c T s0 w0 s1 w1) (k : Mn c T s1 w1 s2 w2) : Mn c T s0 w0 s2 w2 := ⟨k.st, k.inv, k.tab, k.pos, h.ext.trans k.ext, h.fr.trans k.fr⟩
theorem Mn.drewN {c : Cfg} {T : Nat → Nat → Prop} {s0 s : PS} {w0 w : World} (h : Mn c T s0 w0 s w) (k : Nat) : Mn c T s0 w0 s (w.drewN k) :=
  h.trans ⟨h.st.drewN k, h.inv, h.tab.keeps ((Keeps.refl (fun _ => False) _).drewN k) (fun h => h), h.pos, ExtB.refl _ _, ⟨(Keeps.refl _ _).drewN k, Or.inl rfl⟩⟩

def IP (c : Cfg) (T : Nat → Nat → Prop) (s0 : PS) (w0 : World) (n : Nat) (f : Act) (w : World) : Prop :=
  F3 c f ∧ ∃ s, Mn c T s0 w0 s w ∧ n = c.n * c.n - s.head

set_option maxRecDepth 100000 in
theorem ret_true {P : Ending → World → Prop} (f' : Act) (w' : World) (e1 : f'.tmps.size = 195) (e2 : f'.defers = []) (e3 : f'.tmps[2]?.getD undef = .bool true) (h : P (.returned (.bool true)) w') : bodyPost Ybad.prog Ybad.f12 P Exit.ret f' w' := by
  obtain ⟨g', hg'⟩ : ∃ g : Nat → Value, ∀ t, f'.tmps[t]?.getD undef = g t := ⟨_, fun _ => rfl⟩
  rw [hg'] at e3
  rw [lit195 f' g' hg' e1 e2, e3]
  clear hg' e1 e2 e3
  go_ret
  exact h

set_option maxRecDepth 100000 in
set_option maxHeartbeats 2000000 in
theorem prop_any (c : Cfg) (T : Nat → Nat → Prop) (htrans : ∀ x y z, T x y → T y z → T x z) (s : PS) (w : World) (hS : St c s w) (hI : Inv c T s) (hTab : Tab w) (hPos : Pos c s) :
    Calls Ybad.prog 12 #[.pointer (some ⟨c.P, 0, none⟩)] w fun e w' =>
      (e = .returned (.bool false) ∧ ∃ s', Mn c T s w s' w' ∧ s'.head = s'.tr.length) ∨ (e = .returned (.bool true) ∧ Broke c T s w w') := by
  have h0 := pc0 hS.p
  have h1 := pc1 hS.p
  have HM : Hid (_) := Mn.refl hS hI hTab hPos
  clear hS hI hTab hPos
  go_enter Ybad.func12, Ybad.ntmps12
  go_wp2_with fail
  go_quiet (fail)
  go_wp2_with fail
  rename_i K hKont
  refine wp_loop_ghost (IP c T s w) (c.n * c.n - s.head) ⟨⟨rfl, rfl, rfl, rfl, rfl⟩, s, HM.out.drewN _, rfl⟩ ?_
  rintro n f w1 ⟨⟨hsz, hds, e0, e3, e4⟩, s1, hM, rfl⟩
  obtain ⟨g, hg⟩ : ∃ g : Nat → Value, ∀ t, f.tmps[t]?.getD undef = g t := ⟨_, fun _ => rfl⟩
  rw [hg] at e0 e3 e4
  rw [lit195 f g hg hsz hds, e0, e3, e4]
  clear hg hsz hds e0 e3 e4 h0 h1
  obtain ⟨X, hX⟩ : ∃ X, X = (Ybad.f12.body.bind (blk 1)).getD .skip := ⟨_, rfl⟩
  change Code.wp _ (Code.seq _ (Code.block 1 ((Ybad.f12.body.bind (blk 1)).getD .skip))) _ _ _
  rw [← hX]
  have h10 := pc10 hM.st.p
  have h8 := pc8 hM.st.p
  obtain ⟨ao, tcap, htv⟩ := trail_len hM.st
  rw [htv] at h8
  have hlen := hM.inv.len hM.st.ok
  have hhd := hM.inv.head
  have h64 : c.n * c.n ≤ 6400 := nn_le hM.st.ok.n80
  have HM1 : Hid (_) := hM
  clear hM htv
  by_cases hlt : s1.head < s1.tr.length
  · have hI1 : (s1.head : Int) < (s1.tr.length : Int) := by omega
    go_wp2_with fail
    go_quiet (fail)
    go_wp2_with fail
    rw [hX]
    clear hX
    have hD := HM1.out.drewN nq
    refine round12 c T htrans s1 _ _ ⟨rfl, rfl, rfl, rfl, rfl⟩ hD.st hD.inv hD.tab hD.pos hlt ?_ ?_
    · intro f' w' s' hF hN hh
      exact ⟨c.n * c.n - s'.head, by omega, hF, s', hD.trans hN, rfl⟩
    · intro f' w' e1 e2 e3 hB
      have hB' : Broke c T s w w' := ⟨hB.1, hB.2.1, hD.fr.keeps hB.2.2⟩
      exact ret_true (P := fun e w' => (e = .returned (.bool false) ∧ ∃ s', Mn c T s w s' w' ∧ s'.head = s'.tr.length) ∨ (e = .returned (.bool true) ∧ Broke c T s w w')) f' w' e1 e2 e3 (Or.inr ⟨rfl, hB'⟩)
  · have hI1 : ¬ (s1.head : Int) < (s1.tr.length : Int) := by omega
    go_wp2_with fail
    go_quiet (fail)
    go_wp2_with fail
    go_ret
    exact .inl ⟨rfl, s1, HM1.out.drewN _, by omega⟩
end Go.Proofs.YbulkbnbgDoor.Pr
