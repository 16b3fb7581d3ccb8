/-
  'zzs3191baddarcs' (function 6): 'g.succ[u] = append(g.succ[u], ..)', drawn.
-/
import Derived.Test.YbulkbnbgDoorNew
namespace Go.Proofs.YbulkbnbgDoor.Pr
set_option linter.unusedSimpArgs false
open Go.ChangeShapes Go.WideShapes Go.ChangeAt Go.RowKit
open Any

theorem wrap_small32 (x : Nat) (h1 : x < 80) : IntKind.i32.wrap (x : Int) = (x : Int) := by rw [IntKind.wrap_i32]; omega

def apVal (gB S n u v : Nat) (sv : Nat → Value) (m B : Nat) (i : Nat) (γ : Option (Nat × Nat)) (v' : Value) (w : World) : Prop :=
  match i with
  | 0 => v' = .pointer (some ⟨gB, 0, none⟩)
  | 1 => v' = .pointer (some ⟨gB, 0, none⟩)
  | 2 => v' = .pointer (some ⟨gB, 0, none⟩)
  | 3 => v' = .slice (some ⟨S, 0, none⟩) n n
  | 4 => v' = .int .i64 (u : Int)
  | 5 => v' = .pointer (some ⟨gB, 0, none⟩)
  | 6 => v' = .pointer (some ⟨gB, 0, none⟩)
  | 7 => v' = .pointer (some ⟨gB, 0, none⟩)
  | 8 => v' = .slice (some ⟨S, 0, none⟩) n n
  | 9 => v' = .int .i64 (u : Int)
  | 10 => v' = .pointer (some ⟨S, u, none⟩)
  | 11 => v' = sv u
  | 12 => v' = .int .i64 (v : Int)
  | 13 => v' = .int .i32 (v : Int)
  | 14 => ∃ b, v' = .slice (some ⟨b, 0, none⟩) 1 1 ∧ B ≤ b ∧ b < w.heap.size ∧ w.heap[b]? = some (.cells #[.int .i32 (v : Int)] 21 (0, 0))
  | 15 => ∃ gg cap, γ = some (gg, cap) ∧ v' = .slice (some ⟨gg, 0, none⟩) (m + 1) cap
  | 16 => v' = .pointer (some ⟨S, u, none⟩)
  | _ => True

theorem apVal_go (gB S n u v : Nat) (sv : Nat → Value) (m B : Nat) : ∀ i γ v' w γ' w', Go1 B γ w γ' w' → apVal gB S n u v sv m B i γ v' w → apVal gB S n u v sv m B i γ' v' w' := by
  intro i γ v' w γ' w' hg h
  unfold apVal at *
  split at h <;> try exact h
  · obtain ⟨b, rfl, h1, h2, h3⟩ := h
    exact ⟨b, rfl, h1, Nat.lt_of_lt_of_le h2 hg.1, (hg.2.1 b h1 h2).trans h3⟩
  · obtain ⟨gg, cap, h1, h2⟩ := h
    exact ⟨gg, cap, hg.2.2 _ h1, h2⟩

def G7 (S n u v : Nat) (sv : Nat → Value) (w : World) (m : Nat) (xs : List Value) (listed : Array Bool) (γ : Option (Nat × Nat)) (wx : World) : Prop :=
  Keeps (fun j => j = S ∨ (sv u).ownBlock = some j) w wx ∧
      (listed[15]? = some false → γ = none ∧ wx.ownsRow 0 21 1 (sv u) m xs) ∧
      (∀ gg cap, γ = some (gg, cap) → wx.ownsRow 0 21 1 (.slice (some ⟨gg, 0, none⟩) (m + 1) cap) (m + 1) (xs ++ [Value.int .i32 (v : Int)]) ∧ ((sv u).ownBlock = some gg ∨ w.heap.size ≤ gg)) ∧
      (listed[17]? = some false → wx.rowIs S 38 n sv) ∧
      (listed[17]? = some true → ∃ gg cap, γ = some (gg, cap) ∧ wx.rowIs S 38 n (fun j => if j = u then .slice (some ⟨gg, 0, none⟩) (m + 1) cap else sv j))

set_option maxRecDepth 100000 in
set_option maxHeartbeats 4000000 in
theorem app_region {Q : Exit → Act → World → Prop} (gB S n u v : Nat) (sv : Nat → Value) (m : Nat) (xs : List Value) (f : Act) (w : World) (hu : u < n) (hv80 : v < 80) (hm : m ≤ 4000)
    (hcG : w.cell? ⟨gB, 0, none⟩ = some (.slice (some ⟨S, 0, none⟩) n n)) (hrS : w.rowIs S 38 n sv) (hown0 : w.ownsRow 0 21 1 (sv u) m xs) (aG : (sv u).ownBlock ≠ some gB) (aS : (sv u).ownBlock ≠ some S) (hGS : gB ≠ S)
    (hsz : f.tmps.size = 63) (ht0 : f.tmps[0]?.getD undef = .pointer (some ⟨gB, 0, none⟩)) (ht14 : f.tmps[14]?.getD undef = .int .i64 (u : Int)) (ht15 : f.tmps[15]?.getD undef = .int .i64 (v : Int)) (hds : f.defers = [])
    (hend : ∀ f' w' gg cap, f'.tmps.size = 63 → f'.defers = [] → (∀ t, t < 35 → f'.tmps[t]?.getD undef = f.tmps[t]?.getD undef) →
      w'.ownsRow 0 21 1 (.slice (some ⟨gg, 0, none⟩) (m + 1) cap) (m + 1) (xs ++ [Value.int .i32 (v : Int)]) → ((sv u).ownBlock = some gg ∨ w.heap.size ≤ gg) → w'.rowIs S 38 n (fun j => if j = u then .slice (some ⟨gg, 0, none⟩) (m + 1) cap else sv j) →
      Keeps (fun j => j = S ∨ (sv u).ownBlock = some j) w w' → Q .normal f' w') :
    Code.wp Ybad.prog ((Ybad.f6.body.bind (reg 7)).getD .skip) Q f w := by
  conv => arg 2; whnf
  obtain ⟨i0, hi0, hz0, hz1, hz2⟩ := info_parts info21
  have lG := World.block_lt_of_cell? w _ hcG
  have lS := hrS.lt
  simp at lG
  have hrow : ∀ j, (sv u).ownBlock = some j → j < w.heap.size := fun j hj => ownsRow_lt hown0 j hj
  obtain ⟨sa, sl, sc, hsv⟩ := ownsRow_shape hown0
  have hu0 : (0 : Int) ≤ (u : Int) := by omega
  have hu1 : (u : Int) < (n : Int) := by omega
  refine wp_region_ops (N := 63) (by kernel_rfl) (by kernel_rfl) (apVal gB S n u v sv m w.heap.size) (G7 S n u v sv w m xs) (Go1 w.heap.size) none (apVal_go gB S n u v sv m w.heap.size) hsz
    ⟨(Keeps.refl _ _).drew, fun _ => ⟨rfl, hown0⟩, fun _ _ h => (by cases h), fun _ => hrS, fun h => (by simp at h)⟩ ?_ ?_
  · intro i o hi listed γ b wx hcl hls hun hpre hR hG
    obtain ⟨gK, g15, gg15, g17, g17'⟩ := hG
    have hcg : wx.cell? ⟨gB, 0, none⟩ = some (.slice (some ⟨S, 0, none⟩) n n) := by
      rw [World.cell?_of_block (gK.block gB lG (by rintro (e | e); exact hGS e; exact aG e))]; exact hcG
    have hset : ∀ j : Nat, j ≠ i → (listed.setIfInBounds i true)[j]? = listed[j]? := fun j hj => Array.getElem?_setIfInBounds_ne (Ne.symm hj)
    have keep : i ≠ 15 → i ≠ 17 → G7 S n u v sv w m xs (listed.setIfInBounds i true) γ wx := fun h7 h10 => ⟨gK, by rw [hset 15 (Ne.symm h7)]; exact g15, gg15, by rw [hset 17 (Ne.symm h10)]; exact g17, by rw [hset 17 (Ne.symm h10)]; exact g17'⟩
    match i, hi with
    | 0, hi =>
      simp only [List.getElem?_toArray, List.getElem?_cons_zero, List.getElem?_cons_succ, Option.some.injEq] at hi
      subst hi
      have e0 : b.tmps[0]?.getD undef = .pointer (some ⟨gB, 0, none⟩) := (hR.old (by decide)).trans ht0
      exact wp_of_value (v := .pointer (some ⟨gB, 0, none⟩)) (w' := wx) (by go_simp) ⟨_, γ, rfl, keep (by omega) (by omega), Go1.refl _ _ _, by simp, rfl⟩
    | 1, hi =>
      simp only [List.getElem?_toArray, List.getElem?_cons_zero, List.getElem?_cons_succ, Option.some.injEq] at hi
      subst hi
      have e35 : b.tmps[35]?.getD undef = .pointer (some ⟨gB, 0, none⟩) := hR.at (j := 0) rfl (hpre ⟨0, .data⟩ (by simp) rfl)
      exact wp_of_value (v := .pointer (some ⟨gB, 0, none⟩)) (w' := wx) (by go_simp) ⟨_, γ, rfl, keep (by omega) (by omega), Go1.refl _ _ _, by simp, rfl⟩
    | 2, hi =>
      simp only [List.getElem?_toArray, List.getElem?_cons_zero, List.getElem?_cons_succ, Option.some.injEq] at hi
      subst hi
      have e36 : b.tmps[36]?.getD undef = .pointer (some ⟨gB, 0, none⟩) := hR.at (j := 1) rfl (hpre ⟨1, .data⟩ (by simp) rfl)
      exact wp_of_value (v := .pointer (some ⟨gB, 0, none⟩)) (w' := wx) (by go_simp) ⟨_, γ, rfl, keep (by omega) (by omega), Go1.refl _ _ _, by simp, rfl⟩
    | 3, hi =>
      simp only [List.getElem?_toArray, List.getElem?_cons_zero, List.getElem?_cons_succ, Option.some.injEq] at hi
      subst hi
      have e37 : b.tmps[37]?.getD undef = .pointer (some ⟨gB, 0, none⟩) := hR.at (j := 2) rfl (hpre ⟨2, .data⟩ (by simp) rfl)
      exact wp_of_value (v := .slice (some ⟨S, 0, none⟩) n n) (w' := wx) (by go_simp) ⟨_, γ, rfl, keep (by omega) (by omega), Go1.refl _ _ _, by simp, rfl⟩
    | 4, hi =>
      simp only [List.getElem?_toArray, List.getElem?_cons_zero, List.getElem?_cons_succ, Option.some.injEq] at hi
      subst hi
      have e14 : b.tmps[14]?.getD undef = .int .i64 (u : Int) := (hR.old (by decide)).trans ht14
      exact wp_of_value (v := .int .i64 (u : Int)) (w' := wx) (by go_simp) ⟨_, γ, rfl, keep (by omega) (by omega), Go1.refl _ _ _, by simp, rfl⟩
    | 5, hi =>
      simp only [List.getElem?_toArray, List.getElem?_cons_zero, List.getElem?_cons_succ, Option.some.injEq] at hi
      subst hi
      have e0 : b.tmps[0]?.getD undef = .pointer (some ⟨gB, 0, none⟩) := (hR.old (by decide)).trans ht0
      exact wp_of_value (v := .pointer (some ⟨gB, 0, none⟩)) (w' := wx) (by go_simp) ⟨_, γ, rfl, keep (by omega) (by omega), Go1.refl _ _ _, by simp, rfl⟩
    | 6, hi =>
      simp only [List.getElem?_toArray, List.getElem?_cons_zero, List.getElem?_cons_succ, Option.some.injEq] at hi
      subst hi
      have e40 : b.tmps[40]?.getD undef = .pointer (some ⟨gB, 0, none⟩) := hR.at (j := 5) rfl (hpre ⟨5, .data⟩ (by simp) rfl)
      exact wp_of_value (v := .pointer (some ⟨gB, 0, none⟩)) (w' := wx) (by go_simp) ⟨_, γ, rfl, keep (by omega) (by omega), Go1.refl _ _ _, by simp, rfl⟩
    | 7, hi =>
      simp only [List.getElem?_toArray, List.getElem?_cons_zero, List.getElem?_cons_succ, Option.some.injEq] at hi
      subst hi
      have e41 : b.tmps[41]?.getD undef = .pointer (some ⟨gB, 0, none⟩) := hR.at (j := 6) rfl (hpre ⟨6, .data⟩ (by simp) rfl)
      exact wp_of_value (v := .pointer (some ⟨gB, 0, none⟩)) (w' := wx) (by go_simp) ⟨_, γ, rfl, keep (by omega) (by omega), Go1.refl _ _ _, by simp, rfl⟩
    | 8, hi =>
      simp only [List.getElem?_toArray, List.getElem?_cons_zero, List.getElem?_cons_succ, Option.some.injEq] at hi
      subst hi
      have e42 : b.tmps[42]?.getD undef = .pointer (some ⟨gB, 0, none⟩) := hR.at (j := 7) rfl (hpre ⟨7, .data⟩ (by simp) rfl)
      exact wp_of_value (v := .slice (some ⟨S, 0, none⟩) n n) (w' := wx) (by go_simp) ⟨_, γ, rfl, keep (by omega) (by omega), Go1.refl _ _ _, by simp, rfl⟩
    | 9, hi =>
      simp only [List.getElem?_toArray, List.getElem?_cons_zero, List.getElem?_cons_succ, Option.some.injEq] at hi
      subst hi
      have e14 : b.tmps[14]?.getD undef = .int .i64 (u : Int) := (hR.old (by decide)).trans ht14
      exact wp_of_value (v := .int .i64 (u : Int)) (w' := wx) (by go_simp) ⟨_, γ, rfl, keep (by omega) (by omega), Go1.refl _ _ _, by simp, rfl⟩
    | 10, hi =>
      simp only [List.getElem?_toArray, List.getElem?_cons_zero, List.getElem?_cons_succ, Option.some.injEq] at hi
      subst hi
      have e43 : b.tmps[43]?.getD undef = .slice (some ⟨S, 0, none⟩) n n := hR.at (j := 8) rfl (hpre ⟨8, .data⟩ (by simp) rfl)
      have e44 : b.tmps[44]?.getD undef = .int .i64 (u : Int) := hR.at (j := 9) rfl (hpre ⟨9, .data⟩ (by simp) rfl)
      exact wp_of_value (v := .pointer (some ⟨S, u, none⟩)) (w' := wx) (by go_simp) ⟨_, γ, rfl, keep (by omega) (by omega), Go1.refl _ _ _, by simp, rfl⟩
    | 11, hi =>
      simp only [List.getElem?_toArray, List.getElem?_cons_zero, List.getElem?_cons_succ, Option.some.injEq] at hi
      subst hi
      have e45 : b.tmps[45]?.getD undef = .pointer (some ⟨S, u, none⟩) := hR.at (j := 10) rfl (hpre ⟨10, .data⟩ (by simp) rfl)
      have h17 := hcl.before hls hun (j := 17) rfl (e := ⟨11, .phase⟩) (by simp) rfl rfl
      have hcu := (g17 h17).cell hu
      rw [hsv] at hcu
      exact wp_of_value (v := sv u) (w' := wx) (by rw [hsv]; go_simp) ⟨_, γ, rfl, keep (by omega) (by omega), Go1.refl _ _ _, by simp, rfl⟩
    | 12, hi =>
      simp only [List.getElem?_toArray, List.getElem?_cons_zero, List.getElem?_cons_succ, Option.some.injEq] at hi
      subst hi
      have e15 : b.tmps[15]?.getD undef = .int .i64 (v : Int) := (hR.old (by decide)).trans ht15
      exact wp_of_value (v := .int .i64 (v : Int)) (w' := wx) (by go_simp) ⟨_, γ, rfl, keep (by omega) (by omega), Go1.refl _ _ _, by simp, rfl⟩
    | 13, hi =>
      simp only [List.getElem?_toArray, List.getElem?_cons_zero, List.getElem?_cons_succ, Option.some.injEq] at hi
      subst hi
      have e47 : b.tmps[47]?.getD undef = .int .i64 (v : Int) := hR.at (j := 12) rfl (hpre ⟨12, .data⟩ (by simp) rfl)
      exact wp_of_value (v := .int .i32 (v : Int)) (w' := wx) (by go_simp; exact wrap_small32 _ hv80) ⟨_, γ, rfl, keep (by omega) (by omega), Go1.refl _ _ _, by simp, rfl⟩
    | 14, hi =>
      simp only [List.getElem?_toArray, List.getElem?_cons_zero, List.getElem?_cons_succ, Option.some.injEq] at hi
      subst hi
      have e48 : b.tmps[48]?.getD undef = .int .i32 (v : Int) := hR.at (j := 13) rfl (hpre ⟨13, .data⟩ (by simp) rfl)
      have hK := gK.size
      refine wp_of_value (v := .slice (some ⟨wx.heap.size, 0, none⟩) 1 1) (w' := wx.alloc (.cells #[.int .i32 (v : Int)] 21)) (by go_simp) ⟨_, γ, rfl, ⟨gK.alloc _, ?_, ?_, ?_, ?_⟩, ⟨by simp, fun b' _ h => Below.heap_alloc _ _ _ h, fun _ h => h⟩, by simp, ⟨wx.heap.size, rfl, hK, by simp, heap_alloc_new wx _⟩⟩
      · rw [hset 15 (by omega)]; exact fun h => ⟨(g15 h).1, (g15 h).2.alloc _⟩
      · exact fun gg cap h => ⟨(gg15 gg cap h).1.alloc _, (gg15 gg cap h).2⟩
      · rw [hset 17 (by omega)]; exact fun h => (g17 h).alloc _
      · rw [hset 17 (by omega)]; intro h; obtain ⟨gg, cap, h1, h2⟩ := g17' h; exact ⟨gg, cap, h1, h2.alloc _⟩
    | 15, hi =>
      simp only [List.getElem?_toArray, List.getElem?_cons_zero, List.getElem?_cons_succ, Option.some.injEq] at hi
      subst hi
      have e46 : b.tmps[46]?.getD undef = sv u := hR.at (j := 11) rfl (hpre ⟨11, .data⟩ (by simp) rfl)
      obtain ⟨bb, e49, hb1, hb2, hb3⟩ : ∃ bb, b.tmps[49]?.getD undef = .slice (some ⟨bb, 0, none⟩) 1 1 ∧ w.heap.size ≤ bb ∧ bb < wx.heap.size ∧ wx.heap[bb]? = some (.cells #[.int .i32 (v : Int)] 21 (0, 0)) := hR.at (j := 14) rfl (hpre ⟨14, .data⟩ (by simp) rfl)
      have h17 := hcl.before hls hun (j := 17) rfl (e := ⟨15, .data⟩) (by simp) rfl rfl
      obtain ⟨hγ, hown⟩ := g15 hun
      have hK := gK.size
      refine wp_append_lies wx (.tmp 46) (.tmp 49) 38 rfl 0 21 i0 _ 1 4 Ybad.underlying38 hi0 hz0 hz1 hz2 rfl (by omega) (sv u) m xs (by simpa [Act.eval] using e46) hown ⟨bb, 0, none⟩ 1 1 [.int .i32 (v : Int)] (by simpa [Act.eval] using e49) rfl (World.news_of_block hb3) (by simp [Value.oneCell']) (by omega) (by unfold maxLen; omega) (by omega) (by omega) wx.heap.size rfl ?_
      intro gg cap w1 hown1 hgrow hat hlt
      refine ⟨_, some (gg, cap), rfl, ⟨gK.grown hgrow (fun j hj _ => Or.inr hj), ?_, ?_, ?_, ?_⟩, ⟨hgrow.size, fun j h1 h2 => hgrow.block j h2 (fun e => ?_), fun q h => ?_⟩, by simp, ⟨gg, cap, rfl, rfl⟩⟩
      · intro h
        rw [Array.getElem?_setIfInBounds_self_of_lt (by rw [hls]; decide)] at h
        cases h
      · intro gg' cap' h
        obtain ⟨rfl, rfl⟩ : gg = gg' ∧ cap = cap' := by simpa using h
        exact ⟨hown1, hat.imp id (fun e => by omega)⟩
      · intro _; exact (g17 h17).of_block (hgrow.block S (by omega) (fun e => aS e.symm))
      · rw [hset 17 (by omega), h17]; intro h; cases h
      · have := hrow j e.symm; omega
      · rw [hγ] at h; cases h
    | 16, hi =>
      simp only [List.getElem?_toArray, List.getElem?_cons_zero, List.getElem?_cons_succ, Option.some.injEq] at hi
      subst hi
      have e38 : b.tmps[38]?.getD undef = .slice (some ⟨S, 0, none⟩) n n := hR.at (j := 3) rfl (hpre ⟨3, .data⟩ (by simp) rfl)
      have e39 : b.tmps[39]?.getD undef = .int .i64 (u : Int) := hR.at (j := 4) rfl (hpre ⟨4, .data⟩ (by simp) rfl)
      exact wp_of_value (v := .pointer (some ⟨S, u, none⟩)) (w' := wx) (by go_simp) ⟨_, γ, rfl, keep (by omega) (by omega), Go1.refl _ _ _, by simp, rfl⟩
    | 17, hi =>
      simp only [List.getElem?_toArray, List.getElem?_cons_zero, List.getElem?_cons_succ, Option.some.injEq] at hi
      subst hi
      have e51 : b.tmps[51]?.getD undef = .pointer (some ⟨S, u, none⟩) := hR.at (j := 16) rfl (hpre ⟨16, .data⟩ (by simp) rfl)
      obtain ⟨gg, cap, hγ, e50⟩ : ∃ gg cap, γ = some (gg, cap) ∧ b.tmps[50]?.getD undef = .slice (some ⟨gg, 0, none⟩) (m + 1) cap := hR.at (j := 15) rfl (hpre ⟨15, .data⟩ (by simp) rfl)
      have hP' := g17 hun
      have hcu := hP'.cell hu
      rw [hsv] at hcu
      have hf := hP'.frozen u
      obtain ⟨ho, hat⟩ := gg15 gg cap hγ
      have hne : gg ≠ S := by
        rcases hat with h | h
        · exact fun e => aS (by rw [h, e])
        · omega
      have h15 : listed[15]? = some true := hpre ⟨15, .data⟩ (by simp) rfl
      refine wp_of_skip (w' := wx.setCell ⟨S, u, none⟩ (.slice (some ⟨gg, 0, none⟩) (m + 1) cap)) (by go_simp) ⟨_, γ, rfl, ⟨gK.setCell (fun _ => Or.inl rfl) _, ?_, ?_, ?_, ?_⟩, ⟨by simp, fun j h1 _ => Below.heap_setCell _ _ _ _ (by simp; omega), fun _ h => h⟩, by simp, trivial⟩
      · rw [hset 15 (by omega), h15]; intro h; cases h
      · intro gg' cap' h
        rw [hγ] at h
        obtain ⟨rfl, rfl⟩ : gg = gg' ∧ cap = cap' := by simpa using h
        exact ⟨ownsRow_of_block ho (fun j hj => Below.heap_setCell _ _ _ _ (by simp [Value.ownBlock] at hj; subst hj; simpa using hne)), hat⟩
      · intro h
        rw [Array.getElem?_setIfInBounds_self_of_lt (by rw [hls]; decide)] at h
        cases h
      · intro _
        exact ⟨gg, cap, hγ, hP'.set u _⟩
    | _ + 18, hi => simp at hi
  · intro listed γ b wx hall hR hG
    obtain ⟨gK, g15, gg15, g17, g17'⟩ := hG
    obtain ⟨gg, cap, hγ, hr⟩ := g17' (hall 17 (by decide))
    obtain ⟨ho, hat⟩ := gg15 gg cap hγ
    exact hend _ _ gg cap hR.size (hR.ds.trans hds) (fun t ht => hR.old (by revert t; decide)) ho hat hr gK
end Go.Proofs.YbulkbnbgDoor.Pr
