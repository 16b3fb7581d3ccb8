/-
  The walk of 'explain' (function 22) at the reasons that a search without choices and clauses gives: none, or a node.
-/
import Derived.Test.YbulkbnbgDoorSet
import Derived.WalkMore
namespace Go.Proofs.YbulkbnbgDoor.Pr
open Go.ChangeShapes Go.WideShapes Go.ChangeAt Go.RowKit

theorem newer_keeps {w w1 w2 : World} {v v' : Value} {P : Nat} (hn : newer w v v') (h1 : Keeps (fun j => j = P ∨ v.ownBlock = some j) w w1) (h2 : Keeps (fun j => j = P ∨ v'.ownBlock = some j) w1 w2) : Keeps (fun j => j = P ∨ v.ownBlock = some j) w w2 := by
  refine h1.trans h2 fun j hj h => ?_
  rcases h with h | h
  · exact Or.inl h
  · rcases hn with e | ⟨g, e, hg⟩
    · exact Or.inr (by rw [← e]; exact h)
    · rw [e] at h
      have : g = j := by simpa using h
      omega

set_option maxHeartbeats 400000 in
theorem explain_none (c : Cfg) (s : PS) (w : World) (L bd : Int) (f : Value) (hP : w.rowIs c.P 51 34 (pcell c s)) (hn : c.n ≤ 80) :
    Calls Ybad.prog 22 #[.pointer (some ⟨c.P, 0, none⟩), .int .i32 L, .int .i32 (-1), .int .i32 bd, f] w fun e w' => e = .returned (.tuple #[]) ∧ w'.rowIs c.P 51 34 (pcell c s) ∧ Keeps (fun _ => False) w w' := by
  have h0 := pc0 hP
  have lP := hP.lt
  go_enter Ybad.func22, Ybad.ntmps22
  go_wp2
  go_step3
  go_wp2
  rw [Exit.noGoto_ret]
  go_returns
  exact ⟨rfl, (hP.alloc _).alloc _, ((Keeps.refl _ _).alloc _).alloc _⟩

set_option maxHeartbeats 1000000 in
theorem explain_node (c : Cfg) (s : PS) (w : World) (X : Nat) (L bd : Int) (a b r m : Nat) (xs : List Value) (hX : w.cell? ⟨X, 0, none⟩ = some (.pointer (some ⟨c.P, 0, none⟩))) (hP : w.rowIs c.P 51 34 (pcell c s)) (hn : c.n ≤ 80)
    (hL : L = (a : Int) * (c.n : Int) + (b : Int)) (ha : a < c.n) (hb : b < c.n) (hr : r < c.n)
    (hcf : w.ownsRow 0 21 1 s.cf m xs) (hm : m ≤ 5) (aP : s.cf.ownBlock ≠ some c.P) (aX : s.cf.ownBlock ≠ some X) (hXP : X ≠ c.P) :
    Calls Ybad.prog 22 #[.pointer (some ⟨c.P, 0, none⟩), .int .i32 L, .int .i32 (r : Int), .int .i32 bd, .func (.func 23) #[] #[.pointer (some ⟨X, 0, none⟩)]] w fun e w' => e = .returned (.tuple #[]) ∧ (∃ v, w'.rowIs c.P 51 34 (pcell c { s with cf := v })) ∧
      Keeps (fun j => j = c.P ∨ s.cf.ownBlock = some j) w w' := by
  have h0 := pc0 hP
  have lP := hP.lt
  have lX : X < w.heap.size := by have := World.block_lt_of_cell? w _ hX; simpa using this
  have e1 := lit_div hL hb
  have e2 := lit_mod hL hb
  have hbd := lit_bd hL ha hb hn
  have hbd1 := lit_bd (L := (a : Int) * (c.n : Int) + (r : Int)) rfl ha hr hn
  have hbd2 := lit_bd (L := (r : Int) * (c.n : Int) + (b : Int)) rfl hr hb hn
  have hz1 : (0 : Int) ≤ (a : Int) * (c.n : Int) := by exact_mod_cast Nat.zero_le _
  have hz2 : (0 : Int) ≤ (r : Int) * (c.n : Int) := by exact_mod_cast Nat.zero_le _
  have hn0 : 0 < c.n := by omega
  clear hL
  go_enter Ybad.func22, Ybad.ntmps22
  go_wp2_with fail
  go_step3
  go_wp2_with fail
  have hX1 : ((w.alloc (Obj.cells #[Value.pointer (some ⟨c.P, 0, none⟩)] 23)).alloc (Obj.cells #[Value.int IntKind.i32 L] 21)).cell? ⟨X, 0, none⟩ = some (.pointer (some ⟨c.P, 0, none⟩)) := by
    rw [World.cell?_of_block (w := w) ?_]
    · exact hX
    · rw [Below.heap_alloc _ _ _ (by simp; omega), Below.heap_alloc _ _ _ lX]
  refine (clo_any c s _ X _ m xs hX1 ((hP.alloc _).alloc _) ((hcf.alloc _).alloc _) (by omega) aP aX hXP).mono ?_
  rintro e w1 ⟨rfl, v, hP1, hcf1, hnew, hK1⟩
  have hK1' : Keeps (fun j => j = c.P ∨ s.cf.ownBlock = some j) w w1 := (((Keeps.refl _ _).alloc _).alloc _).trans hK1 (fun _ _ h => h)
  have hrow : ∀ j, s.cf.ownBlock = some j → j < w.heap.size := fun j hj => ownsRow_lt hcf j hj
  have hL1 : w1.cell? ⟨w.heap.size + 1, 0, none⟩ = some (.int .i32 L) := by
    rw [World.cell?_of_block (hK1.block (w.heap.size + 1) (by simp) (fun h => by rcases h with h | h; omega; have := hrow _ h; omega))]
    simp
  have hP5 : w1.cell? ⟨w.heap.size, 0, none⟩ = some (.pointer (some ⟨c.P, 0, none⟩)) := by
    rw [World.cell?_of_block (hK1.block w.heap.size (by simp; omega) (fun h => by rcases h with h | h; omega; have := hrow _ h; omega))]
    simp
  have hX2 : w1.cell? ⟨X, 0, none⟩ = some (.pointer (some ⟨c.P, 0, none⟩)) := by
    rw [World.cell?_of_block (hK1'.block X lX (fun h => by rcases h with h | h; exact hXP h; exact aX h))]
    exact hX
  have aP1 : v.ownBlock ≠ some c.P := by
    rcases hnew with h | ⟨g, h, hg⟩
    · rw [h]; exact aP
    · rw [h]; simp at hg; simp; omega
  have aX1 : v.ownBlock ≠ some X := by
    rcases hnew with h | ⟨g, h, hg⟩
    · rw [h]; exact aX
    · rw [h]; simp at hg; simp; omega
  have hnew' : newer w s.cf v := by
    rcases hnew with h | ⟨g, h, hg⟩
    · exact Or.inl h
    · exact Or.inr ⟨g, h, by simp at hg; omega⟩
  clear hX1 hK1 hX hP hcf hnew
  go_wp2_with fail
  refine (clo_any c { s with cf := v } w1 X _ (m + 1) _ hX2 hP1 hcf1 (by omega) aP1 aX1 hXP).mono ?_
  rintro e w2 ⟨rfl, v2, hP2, hcf2, hnew2, hK2⟩
  clear hL1 hP5 hX2
  go_wp2_with fail
  rw [Exit.noGoto_ret]
  go_returns
  exact ⟨rfl, ⟨v2, hP2⟩, newer_keeps hnew' hK1' hK2⟩
end Go.Proofs.YbulkbnbgDoor.Pr
