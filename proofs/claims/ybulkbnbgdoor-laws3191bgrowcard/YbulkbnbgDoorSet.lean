/-
  The walks of 'set' (function 11), of its closure (23) and of 'explain' (22) as far as a search without choices and clauses comes to it.
-/
import Derived.Test.YbulkbnbgDoorBase
import Derived.Test.YbulkbnbgDoorAny
namespace Go.Proofs.YbulkbnbgDoor.Pr
set_option linter.unusedSimpArgs false
open Go.ChangeShapes Go.WideShapes Go.ChangeAt Go.RowKit

theorem info21 : (Ybad.prog.info? 21).map (fun i => (i.zero, i.size, i.bytes)) = some (some (.int .i32 0), 1, 4) := by kernel_rfl

theorem pcell_cf (c : Cfg) (s : PS) (v : Value) (j : Nat) : (if j = 18 then v else pcell c s j) = pcell c { s with cf := v } j := by
  unfold pcell
  by_cases h : j = 18
  · subst h; simp
  · rw [if_neg h]; simp [h]
theorem pcell_tv (c : Cfg) (s : PS) (v : Value) (j : Nat) : (if j = 8 then v else pcell c s j) = pcell c { s with tv := v } j := by
  unfold pcell
  by_cases h : j = 8
  · subst h; simp
  · rw [if_neg h]; simp [h]

/-- A slice's own block, and where a new one lies. -/
def newer (w : World) (v v' : Value) : Prop := v'.ownBlock = v.ownBlock ∨ ∃ g, v'.ownBlock = some g ∧ w.heap.size ≤ g

open Any

theorem wp_of_value {P : Program} {o : Oper} {a : Act} {w w' : World} {v : Value} {K : Act → World → Prop} {Q : Exit → Act → World → Prop} (h : (execOp a.eval o).run P w = .ok (.value v) w') (hK : K (a.put o.dst v) w') : o.wp P a w K Q := by
  unfold Oper.wp; rw [h]; exact hK
theorem wp_of_skip {P : Program} {o : Oper} {a : Act} {w w' : World} {K : Act → World → Prop} {Q : Exit → Act → World → Prop} (h : (execOp a.eval o).run P w = .ok .skip w') (hK : K (a.put o.dst undef) w') : o.wp P a w K Q := by
  unfold Oper.wp; rw [h]; exact hK

def cloVal (c : Cfg) (s : PS) (k : Int) (m B : Nat) (i : Nat) (γ : Option (Nat × Nat)) (v : Value) (w : World) : Prop :=
  match i with
  | 0 => v = .pointer (some ⟨c.P, 0, none⟩)
  | 1 => v = .pointer (some ⟨c.P, 0, none⟩)
  | 2 => v = .pointer (some ⟨c.P, 0, none⟩)
  | 3 => v = .pointer (some ⟨c.P, 18, none⟩)
  | 4 => v = s.cf
  | 5 => v = .int .i32 k
  | 6 => ∃ b, v = .slice (some ⟨b, 0, none⟩) 1 1 ∧ B ≤ b ∧ b < w.heap.size ∧ w.heap[b]? = some (.cells #[.int .i32 k] 21 (0, 0))
  | 7 => ∃ gg cap, γ = some (gg, cap) ∧ v = .slice (some ⟨gg, 0, none⟩) (m + 1) cap
  | 8 => v = .pointer (some ⟨c.P, 0, none⟩)
  | 9 => v = .pointer (some ⟨c.P, 18, none⟩)
  | _ => True

/-- Blocks from B on stay as they are; the ghost is laid once. -/
def Go1 (B : Nat) (γ : Option (Nat × Nat)) (w : World) (γ' : Option (Nat × Nat)) (w' : World) : Prop :=
  w.heap.size ≤ w'.heap.size ∧ (∀ b, B ≤ b → b < w.heap.size → w'.heap[b]? = w.heap[b]?) ∧ ∀ p, γ = some p → γ' = some p
theorem Go1.refl (B : Nat) (γ : Option (Nat × Nat)) (w : World) : Go1 B γ w γ w := ⟨Nat.le_refl _, fun _ _ _ => rfl, fun _ h => h⟩

theorem cloVal_go (c : Cfg) (s : PS) (k : Int) (m B : Nat) : ∀ i γ v w γ' w', Go1 B γ w γ' w' → cloVal c s k m B i γ v w → cloVal c s k m B i γ' v w' := by
  intro i γ v w γ' w' hg h
  unfold cloVal at *
  split at h <;> try exact h
  · obtain ⟨b, rfl, h1, h2, h3⟩ := h
    exact ⟨b, rfl, h1, Nat.lt_of_lt_of_le h2 hg.1, (hg.2.1 b h1 h2).trans h3⟩
  · obtain ⟨gg, cap, h1, h2⟩ := h
    exact ⟨gg, cap, hg.2.2 _ h1, h2⟩

/-- What holds while the closure's one statement runs. -/
def G0 (c : Cfg) (s : PS) (w : World) (X : Nat) (k : Int) (m : Nat) (xs : List Value) (listed : Array Bool) (γ : Option (Nat × Nat)) (wx : World) : Prop :=
  wx.cell? ⟨X, 0, none⟩ = some (.pointer (some ⟨c.P, 0, none⟩)) ∧ Keeps (fun j => j = c.P ∨ s.cf.ownBlock = some j) w wx ∧
      (listed[7]? = some false → γ = none ∧ wx.ownsRow 0 21 1 s.cf m xs) ∧
      (∀ gg cap, γ = some (gg, cap) → wx.ownsRow 0 21 1 (.slice (some ⟨gg, 0, none⟩) (m + 1) cap) (m + 1) (xs ++ [Value.int .i32 k]) ∧ (s.cf.ownBlock = some gg ∨ w.heap.size ≤ gg)) ∧
      (listed[10]? = some false → wx.rowIs c.P 51 34 (pcell c s)) ∧
      (listed[10]? = some true → ∃ gg cap, γ = some (gg, cap) ∧ wx.rowIs c.P 51 34 (pcell c { s with cf := .slice (some ⟨gg, 0, none⟩) (m + 1) cap }))

set_option maxRecDepth 100000 in
set_option maxHeartbeats 1000000 in
theorem clo_any (c : Cfg) (s : PS) (w : World) (X : Nat) (k : Int) (m : Nat) (xs : List Value) (hX : w.cell? ⟨X, 0, none⟩ = some (.pointer (some ⟨c.P, 0, none⟩))) (hP : w.rowIs c.P 51 34 (pcell c s))
    (hcf : w.ownsRow 0 21 1 s.cf m xs) (hm : m ≤ 10) (aP : s.cf.ownBlock ≠ some c.P) (aX : s.cf.ownBlock ≠ some X) (hXP : X ≠ c.P) :
    Calls Ybad.prog 23 #[.int .i32 k, .pointer (some ⟨X, 0, none⟩)] w fun e w' => e = .returned (.tuple #[]) ∧ ∃ v, w'.rowIs c.P 51 34 (pcell c { s with cf := v }) ∧ w'.ownsRow 0 21 1 v (m + 1) (xs ++ [.int .i32 k]) ∧
      newer w s.cf v ∧ Keeps (fun j => j = c.P ∨ s.cf.ownBlock = some j) w w' := by
  obtain ⟨i0, hi0, hz0, hz1, hz2⟩ := info_parts info21
  have lX := World.block_lt_of_cell? w _ hX
  have lP := hP.lt
  simp at lX
  go_enter Ybad.func23, Ybad.ntmps23
  go_wp2_with fail
  refine wp_region_ops (N := 13) (by kernel_rfl) (by kernel_rfl) (cloVal c s k m w.heap.size)
    (G0 c s w X k m xs)
    (Go1 w.heap.size) none (cloVal_go c s k m w.heap.size) rfl ⟨hX, (Keeps.refl _ _).drew, fun _ => ⟨rfl, hcf⟩, fun _ _ h => (by cases h), fun _ => hP, fun h => (by simp at h)⟩ ?_ ?_
  · intro i o hi listed γ b wx hcl hls hun hpre hR hG
    obtain ⟨gX, gK, g7, gg7, g10, g10'⟩ := hG
    have hset : ∀ j : Nat, j ≠ i → (listed.setIfInBounds i true)[j]? = listed[j]? := fun j hj => Array.getElem?_setIfInBounds_ne (Ne.symm hj)
    have keep : i ≠ 7 → i ≠ 10 → G0 c s w X k m xs (listed.setIfInBounds i true) γ wx := fun h7 h10 => ⟨gX, gK, by rw [hset 7 (Ne.symm h7)]; exact g7, gg7, by rw [hset 10 (Ne.symm h10)]; exact g10, by rw [hset 10 (Ne.symm h10)]; exact g10'⟩
    match i, hi with
    | 0, hi =>
      simp only [List.getElem?_toArray, List.getElem?_cons_zero, List.getElem?_cons_succ, Option.some.injEq] at hi
      subst hi
      have e1 : b.tmps[1]?.getD undef = .pointer (some ⟨X, 0, none⟩) := hR.old (by decide)
      exact wp_of_value (v := .pointer (some ⟨c.P, 0, none⟩)) (w' := wx) (by go_simp) ⟨_, γ, rfl, keep (by omega) (by omega), Go1.refl _ _ _, by simp, rfl⟩
    | 1, hi =>
      simp only [List.getElem?_toArray, List.getElem?_cons_zero, List.getElem?_cons_succ, Option.some.injEq] at hi
      subst hi
      have e1 : b.tmps[1]?.getD undef = .pointer (some ⟨X, 0, none⟩) := hR.old (by decide)
      exact wp_of_value (v := .pointer (some ⟨c.P, 0, none⟩)) (w' := wx) (by go_simp) ⟨_, γ, rfl, keep (by omega) (by omega), Go1.refl _ _ _, by simp, rfl⟩
    | 2, hi =>
      simp only [List.getElem?_toArray, List.getElem?_cons_zero, List.getElem?_cons_succ, Option.some.injEq] at hi
      subst hi
      have e4 : b.tmps[4]?.getD undef = .pointer (some ⟨c.P, 0, none⟩) := hR.at (j := 1) rfl (hpre ⟨1, .data⟩ (by simp) rfl)
      exact wp_of_value (v := .pointer (some ⟨c.P, 0, none⟩)) (w' := wx) (by go_simp) ⟨_, γ, rfl, keep (by omega) (by omega), Go1.refl _ _ _, by simp, rfl⟩
    | 3, hi =>
      simp only [List.getElem?_toArray, List.getElem?_cons_zero, List.getElem?_cons_succ, Option.some.injEq] at hi
      subst hi
      have e5 : b.tmps[5]?.getD undef = .pointer (some ⟨c.P, 0, none⟩) := hR.at (j := 2) rfl (hpre ⟨2, .data⟩ (by simp) rfl)
      exact wp_of_value (v := .pointer (some ⟨c.P, 18, none⟩)) (w' := wx) (by go_simp) ⟨_, γ, rfl, keep (by omega) (by omega), Go1.refl _ _ _, by simp, rfl⟩
    | 4, hi =>
      simp only [List.getElem?_toArray, List.getElem?_cons_zero, List.getElem?_cons_succ, Option.some.injEq] at hi
      subst hi
      have e6 : b.tmps[6]?.getD undef = .pointer (some ⟨c.P, 18, none⟩) := hR.at (j := 3) rfl (hpre ⟨3, .data⟩ (by simp) rfl)
      have h10 := hcl.before hls hun (j := 10) rfl (e := ⟨4, .phase⟩) (by simp) rfl rfl
      have h18 := pc18 (g10 h10)
      exact wp_of_value (v := s.cf) (w' := wx) (by go_simp) ⟨_, γ, rfl, keep (by omega) (by omega), Go1.refl _ _ _, by simp, rfl⟩
    | 5, hi =>
      simp only [List.getElem?_toArray, List.getElem?_cons_zero, List.getElem?_cons_succ, Option.some.injEq] at hi
      subst hi
      have e0 : b.tmps[0]?.getD undef = .int .i32 k := hR.old (by decide)
      exact wp_of_value (v := .int .i32 k) (w' := wx) (by go_simp) ⟨_, γ, rfl, keep (by omega) (by omega), Go1.refl _ _ _, by simp, rfl⟩
    | 6, hi =>
      simp only [List.getElem?_toArray, List.getElem?_cons_zero, List.getElem?_cons_succ, Option.some.injEq] at hi
      subst hi
      have e8 : b.tmps[8]?.getD undef = .int .i32 k := hR.at (j := 5) rfl (hpre ⟨5, .data⟩ (by simp) rfl)
      have hK := gK.size
      refine wp_of_value (v := .slice (some ⟨wx.heap.size, 0, none⟩) 1 1) (w' := wx.alloc (.cells #[.int .i32 k] 21)) (by go_simp) ⟨_, γ, rfl, ⟨?_, gK.alloc _, ?_, ?_, ?_, ?_⟩, ⟨by simp, fun b' _ h => Below.heap_alloc _ _ _ h, fun _ h => h⟩, by simp, ⟨wx.heap.size, rfl, hK, by simp, heap_alloc_new wx _⟩⟩
      · rw [World.cell?_of_block (w := wx) (Below.heap_alloc _ _ _ (show X < wx.heap.size by omega))]; exact gX
      · rw [hset 7 (by omega)]; exact fun h => ⟨(g7 h).1, (g7 h).2.alloc _⟩
      · exact fun gg cap h => ⟨(gg7 gg cap h).1.alloc _, (gg7 gg cap h).2⟩
      · rw [hset 10 (by omega)]; exact fun h => (g10 h).alloc _
      · rw [hset 10 (by omega)]; intro h; obtain ⟨gg, cap, h1, h2⟩ := g10' h; exact ⟨gg, cap, h1, h2.alloc _⟩
    | 7, hi =>
      simp only [List.getElem?_toArray, List.getElem?_cons_zero, List.getElem?_cons_succ, Option.some.injEq] at hi
      subst hi
      have e7 : b.tmps[7]?.getD undef = s.cf := hR.at (j := 4) rfl (hpre ⟨4, .data⟩ (by simp) rfl)
      obtain ⟨bb, e9, hb1, hb2, hb3⟩ : ∃ bb, b.tmps[9]?.getD undef = .slice (some ⟨bb, 0, none⟩) 1 1 ∧ w.heap.size ≤ bb ∧ bb < wx.heap.size ∧ wx.heap[bb]? = some (.cells #[.int .i32 k] 21 (0, 0)) := hR.at (j := 6) rfl (hpre ⟨6, .data⟩ (by simp) rfl)
      have h10 := hcl.before hls hun (j := 10) rfl (e := ⟨7, .data⟩) (by simp) rfl rfl
      obtain ⟨hγ, hown⟩ := g7 hun
      have hK := gK.size
      refine wp_append_lies wx (.tmp 7) (.tmp 9) 38 rfl 0 21 i0 _ 1 4 Ybad.underlying38 hi0 hz0 hz1 hz2 rfl (by omega) s.cf m xs (by simpa [Act.eval] using e7) hown ⟨bb, 0, none⟩ 1 1 [.int .i32 k] (by simpa [Act.eval] using e9) rfl (World.news_of_block hb3) (by simp [Value.oneCell']) (by omega) (by unfold maxLen; omega) (by omega) (by omega) wx.heap.size rfl ?_
      intro gg cap w1 hown1 hgrow hat hlt
      have hrow : ∀ j, s.cf.ownBlock = some j → j < w.heap.size := fun j hj => ownsRow_lt hcf j hj
      refine ⟨_, some (gg, cap), rfl, ⟨?_, gK.grown hgrow (fun j hj _ => Or.inr hj), ?_, ?_, ?_, ?_⟩, ⟨hgrow.size, fun j h1 h2 => hgrow.block j h2 (fun e => ?_), fun q h => ?_⟩, by simp, ⟨gg, cap, rfl, rfl⟩⟩
      · rw [hgrow.cell_far _ (by simp; omega) (Ne.symm aX)]; exact gX
      · intro h
        rw [Array.getElem?_setIfInBounds_self_of_lt (by rw [hls]; decide)] at h
        cases h
      · intro gg' cap' h
        obtain ⟨rfl, rfl⟩ : gg = gg' ∧ cap = cap' := by simpa using h
        exact ⟨hown1, hat.imp id (fun e => by omega)⟩
      · intro _; exact (g10 h10).of_block (hgrow.block c.P (by omega) (fun e => aP e.symm))
      · rw [hset 10 (by omega), h10]; intro h; cases h
      · have := hrow j e.symm; omega
      · rw [hγ] at h; cases h
    | 8, hi =>
      simp only [List.getElem?_toArray, List.getElem?_cons_zero, List.getElem?_cons_succ, Option.some.injEq] at hi
      subst hi
      have e3 : b.tmps[3]?.getD undef = .pointer (some ⟨c.P, 0, none⟩) := hR.at (j := 0) rfl (hpre ⟨0, .data⟩ (by simp) rfl)
      exact wp_of_value (v := .pointer (some ⟨c.P, 0, none⟩)) (w' := wx) (by go_simp) ⟨_, γ, rfl, keep (by omega) (by omega), Go1.refl _ _ _, by simp, rfl⟩
    | 9, hi =>
      simp only [List.getElem?_toArray, List.getElem?_cons_zero, List.getElem?_cons_succ, Option.some.injEq] at hi
      subst hi
      have e11 : b.tmps[11]?.getD undef = .pointer (some ⟨c.P, 0, none⟩) := hR.at (j := 8) rfl (hpre ⟨8, .data⟩ (by simp) rfl)
      exact wp_of_value (v := .pointer (some ⟨c.P, 18, none⟩)) (w' := wx) (by go_simp) ⟨_, γ, rfl, keep (by omega) (by omega), Go1.refl _ _ _, by simp, rfl⟩
    | 10, hi =>
      simp only [List.getElem?_toArray, List.getElem?_cons_zero, List.getElem?_cons_succ, Option.some.injEq] at hi
      subst hi
      have e12 : b.tmps[12]?.getD undef = .pointer (some ⟨c.P, 18, none⟩) := hR.at (j := 9) rfl (hpre ⟨9, .data⟩ (by simp) rfl)
      obtain ⟨gg, cap, hγ, e10⟩ : ∃ gg cap, γ = some (gg, cap) ∧ b.tmps[10]?.getD undef = .slice (some ⟨gg, 0, none⟩) (m + 1) cap := hR.at (j := 7) rfl (hpre ⟨7, .data⟩ (by simp) rfl)
      have hP' := g10 hun
      have h18 := pc18 hP'
      have hf := hP'.frozen 18
      obtain ⟨ho, hat⟩ := gg7 gg cap hγ
      have hne : gg ≠ c.P := by
        rcases hat with h | h
        · exact fun e => aP (by rw [h, e])
        · omega
      have h7 : listed[7]? = some true := hpre ⟨7, .data⟩ (by simp) rfl
      refine wp_of_skip (w' := wx.setCell ⟨c.P, 18, none⟩ (.slice (some ⟨gg, 0, none⟩) (m + 1) cap)) (by go_simp) ⟨_, γ, rfl, ⟨?_, gK.setCell (fun _ => Or.inl rfl) _, ?_, ?_, ?_, ?_⟩, ⟨by simp, fun j h1 _ => Below.heap_setCell _ _ _ _ (by simp; omega), fun _ h => h⟩, by simp, trivial⟩
      · rw [World.cell?_of_block (w := wx) (Below.heap_setCell _ _ _ _ (by simpa using hXP))]; exact gX
      · rw [hset 7 (by omega), h7]; intro h; cases h
      · intro gg' cap' h
        rw [hγ] at h
        obtain ⟨rfl, rfl⟩ : gg = gg' ∧ cap = cap' := by simpa using h
        exact ⟨ownsRow_of_block ho (fun j hj => Below.heap_setCell _ _ _ _ (by simp [Value.ownBlock] at hj; subst hj; simpa using hne)), hat⟩
      · intro h
        rw [Array.getElem?_setIfInBounds_self_of_lt (by rw [hls]; decide)] at h
        cases h
      · intro _
        exact ⟨gg, cap, hγ, (hP'.set 18 _).congr (fun j _ => pcell_cf c s _ j)⟩
    | n + 11, hi => simp at hi
  · intro listed γ b wx hall hR hG
    obtain ⟨gX, gK, g7, gg7, g10, g10'⟩ := hG
    obtain ⟨gg, cap, hγ, hrow⟩ := g10' (hall 10 (by decide))
    obtain ⟨ho, hat⟩ := gg7 gg cap hγ
    refine bodyPost_end (results_none rfl _ _ _) hR.ds ⟨rfl, _, hrow, ho, ?_, gK⟩
    rcases hat with h | h
    · exact Or.inl (by rw [h]; rfl)
    · exact Or.inr ⟨gg, rfl, h⟩
end Go.Proofs.YbulkbnbgDoor.Pr
