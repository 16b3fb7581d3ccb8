/-
  'set' (function 11), whatever the state: over the invariant.
-/
import Derived.Test.YbulkbnbgDoorSetNew
import Derived.Test.YbulkbnbgDoorInv
namespace Go.Proofs.YbulkbnbgDoor.Pr
open Go.RowKit

/-- The frame of a search that goes on. -/
def Fr (c : Cfg) (s : PS) (w : World) (s' : PS) (w' : World) : Prop := Keeps (own c s.tv.ownBlock) w w' ∧ newer w s.tv s'.tv

theorem Fr.refl (c : Cfg) (s : PS) (w : World) : Fr c s w s w := ⟨Keeps.refl _ _, Or.inl rfl⟩
theorem Fr.keeps {c : Cfg} {s s1 : PS} {w w1 w2 : World} (h : Fr c s w s1 w1) (k : Keeps (own c s1.tv.ownBlock) w1 w2) : Keeps (own c s.tv.ownBlock) w w2 := by
  refine h.1.trans k fun j hj ho => ?_
  rcases ho with ho | ho | ho | ho | ho | ho | ho | ho
  case inr.inr.inr.inr.inr.inr.inr =>
    rcases h.2 with e | ⟨g, e, hg⟩
    · rw [e] at ho; simp [own, ho]
    · rw [e] at ho
      have : g = j := by simpa using ho
      omega
  all_goals simp [own, ho]
theorem Fr.trans {c : Cfg} {s s1 s2 : PS} {w w1 w2 : World} (h : Fr c s w s1 w1) (k : Fr c s1 w1 s2 w2) : Fr c s w s2 w2 := by
  refine ⟨h.keeps k.1, ?_⟩
  rcases k.2 with e | ⟨g, e, hg⟩
  · rcases h.2 with e' | ⟨g, e', hg⟩
    · exact Or.inl (e.trans e')
    · exact Or.inr ⟨g, e.trans e', hg⟩
  · exact Or.inr ⟨g, e, Nat.le_trans h.1.size hg⟩

/-- What is left of the search behind a conflict. -/
def Wk (c : Cfg) (w : World) : Prop := ∃ s', w.rowIs c.P 51 34 (pcell c s')

/-- No block of the search is the first one (the library's table). -/
structure Pos (c : Cfg) (s : PS) : Prop where
  fixed : 0 < c.P ∧ 0 < c.Bf ∧ 0 < c.Af ∧ 0 < c.Lv ∧ 0 < c.At ∧ 0 < c.Rs ∧ 0 < c.Ws
  tr : ∀ g, s.tv.ownBlock = some g → 0 < g

theorem Pos.own {c : Cfg} {s : PS} (h : Pos c s) (k : Nat) (hk : own c s.tv.ownBlock k) : k ≠ 0 := by
  have hf := h.fixed
  rcases hk with rfl | rfl | rfl | rfl | rfl | rfl | rfl | hk
  case inr.inr.inr.inr.inr.inr.inr => have := h.tr k hk; omega
  all_goals omega
theorem Pos.fr {c : Cfg} {s s' : PS} {w w' : World} (h : Pos c s) (hf : Fr c s w s' w') (hw : 0 < w.heap.size) : Pos c s' := by
  refine ⟨h.fixed, fun g hg => ?_⟩
  rcases hf.2 with e | ⟨q, e, hq⟩
  · exact h.tr g (by rw [← e]; exact hg)
  · rw [e] at hg
    have : q = g := by simpa using hg
    omega

theorem set_any (c : Cfg) (T : Nat → Nat → Prop) (s : PS) (w : World) (hd : Nat) (hS : St c s w) (hI : Inv c T { s with head := hd }) (htrans : ∀ x y z, T x y → T y z → T x z) (L r : Int) (a b : Nat) (hL : L = (a : Int) * (c.n : Int) + (b : Int)) (ha : a < c.n) (hb : b < c.n) (hab : a ≠ b) (hT : T a b)
    (hr : r = -1 ∨ ∃ q : Nat, r = (q : Int) ∧ q < c.n) :
    Calls Ybad.prog 11 #[.pointer (some ⟨c.P, 0, none⟩), .int .i32 L, .int .i32 r] w fun e w' =>
      (e = .returned (.bool true) ∧ ∃ s', St c s' w' ∧ Inv c T { s' with head := hd } ∧ Ext c s s' ∧ R c s'.Mb a b = true ∧ Fr c s w s' w') ∨
      (e = .returned (.bool false) ∧ (∃ x, T x x) ∧ Wk c w' ∧ Keeps (own c s.tv.ownBlock) w w') := by
  cases h1 : R c s.Mb a b with
  | true => exact (set_held c s w hS L r a b hL ha hb h1).mono fun e w' h => .inl ⟨h.1, s, h.2.1, hI, Ext.refl _ _, h1, h.2.2, Or.inl rfl⟩
  | false =>
    cases h2 : R c s.Mb b a with
    | true => exact (set_conf c s w hS L r a b hL ha hb hr h1 h2).mono fun e w' h => .inr ⟨h.1, ⟨a, htrans a b a hT (hI.sound b a hb ha h2)⟩, ⟨_, h.2.1.choose_spec⟩, h.2.2⟩
    | false =>
      refine (set_new c s w hS L r a b hL ha hb h1 h2 (hI.len hS.ok).2).mono fun e w' h => .inl ?_
      obtain ⟨he, ⟨tv', atF', rsF', hS', hn⟩, hK⟩ := h
      have hx := ext_set (s := s) (s' := { s with Mb := setM c s.Mb a b, Ma := setM c s.Ma b a, tr := s.tr ++ [a * c.n + b], tv := tv', atF := atF', rsF := rsF' }) hS.ok (a := a) hb rfl rfl rfl rfl
      exact ⟨he, _, hS', hI.set (s := { s with head := hd }) (s' := { s with Mb := setM c s.Mb a b, Ma := setM c s.Ma b a, tr := s.tr ++ [a * c.n + b], tv := tv', atF := atF', rsF := rsF', head := hd }) hS.ok ha hb hab hT h1 h2 rfl rfl rfl rfl, hx.1, hx.2, hK, hn⟩
end Go.Proofs.YbulkbnbgDoor.Pr
