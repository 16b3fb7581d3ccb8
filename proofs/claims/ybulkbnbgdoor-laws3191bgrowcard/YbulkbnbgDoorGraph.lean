/-
  A new graph (functions 3 and 4, region 5).
-/
import Derived.Test.YbulkbnbgDoorChkD
namespace Go.Proofs.YbulkbnbgDoor.Pr
set_option linter.unusedSimpArgs false
open Go.ChangeShapes Go.WideShapes Go.ChangeAt Go.RowKit

def GrB (n B : Nat) (γ : Nat → Nat) (w : World) (v : Value) : Prop := ∃ G S L, v = .pointer (some ⟨G, 0, none⟩) ∧ B ≤ G ∧ γ G = 5 ∧ w.heap[G]? = some (.cells #[.slice (some ⟨S, 0, none⟩) n n, .slice (some ⟨L, 0, none⟩) n n, .int .i64 0] 28 (0, 0)) ∧ Bk B γ w S 1 38 n (.slice none 0 0)
theorem GrB.go {n B : Nat} {γ γ' : Nat → Nat} {w w' : World} {v : Value} (h : GrB n B γ w v) (hg : Gw γ w γ' w') : GrB n B γ' w' v := by
  obtain ⟨G, S, L, hv, hB, ht, hh, hS⟩ := h
  have hlt : G < w.heap.size := (Array.getElem?_eq_some_iff.1 hh).1
  exact ⟨G, S, L, hv, hB, (hg.2 G hlt).2.trans ht, (hg.2 G hlt).1.trans hh, hS.go hg⟩
theorem GrB.made {n B : Nat} {γ : Nat → Nat} {w : World} {b : Act} {t S L : Nat} (hB : B ≤ w.heap.size) (e4 : b.tmps[t]?.getD undef = .agg #[.slice (some ⟨S, 0, none⟩) n n, .slice (some ⟨L, 0, none⟩) n n, .int .i64 0]) (kS : Bk B γ w S 1 38 n (.slice none 0 0)) :
    GrB n B (fun k => if k = w.heap.size then 5 else γ k) (w.alloc (.cells (b.eval (.tmp t)).cells 28)) (.pointer (some ⟨w.heap.size, 0, none⟩)) := by
  refine ⟨w.heap.size, S, L, rfl, hB, if_pos rfl, ?_, kS.go (Gw.tag _ _ _)⟩
  rw [eval_tmp, e4]
  exact Go.Deep.blk_alloc_new _ _

/-- The empty graph and the empty logs. -/
theorem GrB.lg {n B : Nat} {γ : Nat → Nat} {w : World} {v : Value} (h : GrB n B γ w v) : ∃ gB S, v = .pointer (some ⟨gB, 0, none⟩) ∧ Lg n gB S [] (fun _ => .slice none 0 0) (.slice none 0 0) (.slice none 0 0) w ∧ ∀ k, adblk n gB S (fun _ => .slice none 0 0) (.slice none 0 0) (.slice none 0 0) k → B ≤ k := by
  obtain ⟨G, S, L, hv, hB, ht, hh, hS⟩ := h
  have hne : G ≠ S := fun e => by have := hS.2.2; rw [← e, ht] at this; cases this
  refine ⟨G, S, hv, ⟨⟨?_, hS.2.1, fun u _ => World.ownsRow_nil _ _ _ _, fun u v _ hv => (by cases hv), fun u _ => (by simp [adjOf]), hne, fun u k _ hk => (by cases hk)⟩, World.ownsRow_nil _ _ _ _, World.ownsRow_nil _ _ _ _, fun k hk => (by cases hk), fun k hk => (by cases hk), fun k hk => (by cases hk)⟩, ?_⟩
  · simp [World.cell?, hh]
  · rintro k ((rfl | rfl | ⟨u, _, hk⟩) | hk | hk)
    · exact hB
    · exact hS.1
    · cases hk
    · cases hk
    · cases hk

def grVal3 (n B : Nat) (i : Nat) (γ : Nat → Nat) (v : Value) (w : World) : Prop :=
  match i with
  | 0 => v = .int .i64 (n : Int)
  | 1 => Mk B γ w v 1 38 n (.slice none 0 0)
  | 2 => v = .int .i64 (n : Int)
  | 3 => Mk B γ w v 3 38 n (.slice none 0 0)
  | 4 => ∃ S L, v = .agg #[.slice (some ⟨S, 0, none⟩) n n, .slice (some ⟨L, 0, none⟩) n n, .int .i64 0] ∧ Bk B γ w S 1 38 n (.slice none 0 0)
  | 5 => GrB n B γ w v
  | 6 => GrB n B γ w v
  | _ => True
theorem grVal3_go (n B : Nat) : ∀ i γ v w γ' w', Gw γ w γ' w' → grVal3 n B i γ v w → grVal3 n B i γ' v w' := by
  intro i γ v w γ' w' hg h
  unfold grVal3 at *
  split at h <;> first | exact h | exact Mk.go h hg | exact GrB.go h hg | (obtain ⟨S, L, h1, h2⟩ := h; exact ⟨S, L, h1, h2.go hg⟩)

set_option maxRecDepth 100000 in
set_option maxHeartbeats 4000000 in
theorem gr_region3 {Q : Exit → Act → World → Prop} (n : Nat) (hn : n ≤ 80) (f : Act) (w : World) (hsz : f.tmps.size = 40) (hds : f.defers = []) (htn : f.tmps[5]?.getD undef = .int .i64 (n : Int))
    (hend : ∀ f' w' γ, f'.tmps.size = 40 → f'.defers = [] → (∀ t, t < 19 → t ≠ 7 → f'.tmps[t]?.getD undef = f.tmps[t]?.getD undef) → GrB n w.heap.size γ w' (f'.tmps[7]?.getD undef) → Keeps (fun _ => False) w w' → Q .normal f' w') :
    Code.wp Ybad.prog ((Ybad.f3.body.bind (reg 5)).getD .skip) Q f w := by
  conv => arg 2; whnf
  refine Any.wp_region_ops (N := 40) (by kernel_rfl) (by kernel_rfl) (grVal3 n w.heap.size) (fun _ _ wx => Keeps (fun _ => False) w wx) Gw (fun _ => 0) (grVal3_go n w.heap.size) hsz (Keeps.refl _ _).drew ?_ ?_
  · generalize hB : w.heap.size = B
    intro i o hi listed γ b wx hcl hls hun hpre hR hG
    have hGs := hG.size
    rw [hB] at hGs
    match i, hi with
    | 0, hi =>
      simp only [List.getElem?_toArray, List.getElem?_cons_zero, List.getElem?_cons_succ, Option.some.injEq] at hi
      subst hi
      have e0 : b.tmps[5]?.getD undef = .int .i64 (n : Int) := (hR.old (by decide)).trans htn
      exact wp_of_value (v := .int .i64 (n : Int)) (w' := wx) (by go_simp) ⟨_, γ, rfl, hG, Gw.refl _ _, by simp, rfl⟩
    | 1, hi =>
      simp only [List.getElem?_toArray, List.getElem?_cons_zero, List.getElem?_cons_succ, Option.some.injEq] at hi
      subst hi
      have e1 : b.tmps[19]?.getD undef = .int .i64 (n : Int) := hR.at (j := 0) rfl (hpre ⟨0, .data⟩ (by simp) rfl)
      exact wp_of_value (v := .slice (some ⟨wx.heap.size, 0, none⟩) n n) (w' := wx.alloc (.cells (madeCells #[.slice none 0 0] n) 38)) (run_mk info38 Ybad.underlying26 (by omega) (by omega) rfl rfl e1 e1 wx) ⟨_, fun k => if k = wx.heap.size then 1 else γ k, rfl, hG.alloc _, Gw.tag _ _ _, by simp, Mk.made hGs _ _ _ _⟩
    | 2, hi =>
      simp only [List.getElem?_toArray, List.getElem?_cons_zero, List.getElem?_cons_succ, Option.some.injEq] at hi
      subst hi
      have e0 : b.tmps[5]?.getD undef = .int .i64 (n : Int) := (hR.old (by decide)).trans htn
      exact wp_of_value (v := .int .i64 (n : Int)) (w' := wx) (by go_simp) ⟨_, γ, rfl, hG, Gw.refl _ _, by simp, rfl⟩
    | 3, hi =>
      simp only [List.getElem?_toArray, List.getElem?_cons_zero, List.getElem?_cons_succ, Option.some.injEq] at hi
      subst hi
      have e1 : b.tmps[21]?.getD undef = .int .i64 (n : Int) := hR.at (j := 2) rfl (hpre ⟨2, .data⟩ (by simp) rfl)
      exact wp_of_value (v := .slice (some ⟨wx.heap.size, 0, none⟩) n n) (w' := wx.alloc (.cells (madeCells #[.slice none 0 0] n) 38)) (run_mk info38 Ybad.underlying26 (by omega) (by omega) rfl rfl e1 e1 wx) ⟨_, fun k => if k = wx.heap.size then 3 else γ k, rfl, hG.alloc _, Gw.tag _ _ _, by simp, Mk.made hGs _ _ _ _⟩
    | 4, hi =>
      simp only [List.getElem?_toArray, List.getElem?_cons_zero, List.getElem?_cons_succ, Option.some.injEq] at hi
      subst hi
      obtain ⟨S, eS, kS⟩ : Mk B γ wx (b.tmps[20]?.getD undef) 1 38 n (.slice none 0 0) := hR.at (j := 1) rfl (hpre ⟨1, .data⟩ (by simp) rfl)
      obtain ⟨L, eL, kL⟩ : Mk B γ wx (b.tmps[22]?.getD undef) 3 38 n (.slice none 0 0) := hR.at (j := 3) rfl (hpre ⟨3, .data⟩ (by simp) rfl)
      exact wp_of_value (v := .agg #[.slice (some ⟨S, 0, none⟩) n n, .slice (some ⟨L, 0, none⟩) n n, .int .i64 0]) (w' := wx) (by go_simp) ⟨_, γ, rfl, hG, Gw.refl _ _, by simp, S, L, rfl, kS⟩
    | 5, hi =>
      simp only [List.getElem?_toArray, List.getElem?_cons_zero, List.getElem?_cons_succ, Option.some.injEq] at hi
      subst hi
      obtain ⟨S, L, e4, kS⟩ : ∃ S L, b.tmps[23]?.getD undef = .agg #[.slice (some ⟨S, 0, none⟩) n n, .slice (some ⟨L, 0, none⟩) n n, .int .i64 0] ∧ Bk B γ wx S 1 38 n (.slice none 0 0) := hR.at (j := 4) rfl (hpre ⟨4, .data⟩ (by simp) rfl)
      exact wp_of_value (v := .pointer (some ⟨wx.heap.size, 0, none⟩)) (w' := wx.alloc (.cells (b.eval (.tmp 23)).cells 28)) (run_box _ _ _ _ _ rfl) ⟨_, fun k => if k = wx.heap.size then 5 else γ k, rfl, hG.alloc _, Gw.tag _ _ _, by simp, GrB.made hGs e4 kS⟩
    | 6, hi =>
      simp only [List.getElem?_toArray, List.getElem?_cons_zero, List.getElem?_cons_succ, Option.some.injEq] at hi
      subst hi
      have e5 : GrB n B γ wx (b.tmps[24]?.getD undef) := hR.at (j := 5) rfl (hpre ⟨5, .data⟩ (by simp) rfl)
      exact wp_of_value (v := b.tmps[24]?.getD undef) (w' := wx) (by go_simp) ⟨_, γ, rfl, hG, Gw.refl _ _, by simp, e5⟩
    | _ + 7, hi => simp at hi
  · intro listed γ b wx hall hR hG
    have h6 := hR.at (j := 6) (d := 7) rfl (hall 6 (by decide))
    exact hend _ _ γ hR.size (hR.ds.trans hds) (fun t ht hne => hR.old (by revert t; decide)) h6 hG

def grVal4 (n B : Nat) (i : Nat) (γ : Nat → Nat) (v : Value) (w : World) : Prop :=
  match i with
  | 0 => v = .int .i64 (n : Int)
  | 1 => Mk B γ w v 1 38 n (.slice none 0 0)
  | 2 => v = .int .i64 (n : Int)
  | 3 => Mk B γ w v 3 38 n (.slice none 0 0)
  | 4 => ∃ S L, v = .agg #[.slice (some ⟨S, 0, none⟩) n n, .slice (some ⟨L, 0, none⟩) n n, .int .i64 0] ∧ Bk B γ w S 1 38 n (.slice none 0 0)
  | 5 => GrB n B γ w v
  | 6 => GrB n B γ w v
  | _ => True
theorem grVal4_go (n B : Nat) : ∀ i γ v w γ' w', Gw γ w γ' w' → grVal4 n B i γ v w → grVal4 n B i γ' v w' := by
  intro i γ v w γ' w' hg h
  unfold grVal4 at *
  split at h <;> first | exact h | exact Mk.go h hg | exact GrB.go h hg | (obtain ⟨S, L, h1, h2⟩ := h; exact ⟨S, L, h1, h2.go hg⟩)

set_option maxRecDepth 100000 in
set_option maxHeartbeats 4000000 in
theorem gr_region4 {Q : Exit → Act → World → Prop} (n : Nat) (hn : n ≤ 80) (f : Act) (w : World) (hsz : f.tmps.size = 65) (hds : f.defers = []) (htn : f.tmps[7]?.getD undef = .int .i64 (n : Int))
    (hend : ∀ f' w' γ, f'.tmps.size = 65 → f'.defers = [] → (∀ t, t < 26 → t ≠ 9 → f'.tmps[t]?.getD undef = f.tmps[t]?.getD undef) → GrB n w.heap.size γ w' (f'.tmps[9]?.getD undef) → Keeps (fun _ => False) w w' → Q .normal f' w') :
    Code.wp Ybad.prog ((Ybad.f4.body.bind (reg 5)).getD .skip) Q f w := by
  conv => arg 2; whnf
  refine Any.wp_region_ops (N := 65) (by kernel_rfl) (by kernel_rfl) (grVal4 n w.heap.size) (fun _ _ wx => Keeps (fun _ => False) w wx) Gw (fun _ => 0) (grVal4_go n w.heap.size) hsz (Keeps.refl _ _).drew ?_ ?_
  · generalize hB : w.heap.size = B
    intro i o hi listed γ b wx hcl hls hun hpre hR hG
    have hGs := hG.size
    rw [hB] at hGs
    match i, hi with
    | 0, hi =>
      simp only [List.getElem?_toArray, List.getElem?_cons_zero, List.getElem?_cons_succ, Option.some.injEq] at hi
      subst hi
      have e0 : b.tmps[7]?.getD undef = .int .i64 (n : Int) := (hR.old (by decide)).trans htn
      exact wp_of_value (v := .int .i64 (n : Int)) (w' := wx) (by go_simp) ⟨_, γ, rfl, hG, Gw.refl _ _, by simp, rfl⟩
    | 1, hi =>
      simp only [List.getElem?_toArray, List.getElem?_cons_zero, List.getElem?_cons_succ, Option.some.injEq] at hi
      subst hi
      have e1 : b.tmps[26]?.getD undef = .int .i64 (n : Int) := hR.at (j := 0) rfl (hpre ⟨0, .data⟩ (by simp) rfl)
      exact wp_of_value (v := .slice (some ⟨wx.heap.size, 0, none⟩) n n) (w' := wx.alloc (.cells (madeCells #[.slice none 0 0] n) 38)) (run_mk info38 Ybad.underlying26 (by omega) (by omega) rfl rfl e1 e1 wx) ⟨_, fun k => if k = wx.heap.size then 1 else γ k, rfl, hG.alloc _, Gw.tag _ _ _, by simp, Mk.made hGs _ _ _ _⟩
    | 2, hi =>
      simp only [List.getElem?_toArray, List.getElem?_cons_zero, List.getElem?_cons_succ, Option.some.injEq] at hi
      subst hi
      have e0 : b.tmps[7]?.getD undef = .int .i64 (n : Int) := (hR.old (by decide)).trans htn
      exact wp_of_value (v := .int .i64 (n : Int)) (w' := wx) (by go_simp) ⟨_, γ, rfl, hG, Gw.refl _ _, by simp, rfl⟩
    | 3, hi =>
      simp only [List.getElem?_toArray, List.getElem?_cons_zero, List.getElem?_cons_succ, Option.some.injEq] at hi
      subst hi
      have e1 : b.tmps[28]?.getD undef = .int .i64 (n : Int) := hR.at (j := 2) rfl (hpre ⟨2, .data⟩ (by simp) rfl)
      exact wp_of_value (v := .slice (some ⟨wx.heap.size, 0, none⟩) n n) (w' := wx.alloc (.cells (madeCells #[.slice none 0 0] n) 38)) (run_mk info38 Ybad.underlying26 (by omega) (by omega) rfl rfl e1 e1 wx) ⟨_, fun k => if k = wx.heap.size then 3 else γ k, rfl, hG.alloc _, Gw.tag _ _ _, by simp, Mk.made hGs _ _ _ _⟩
    | 4, hi =>
      simp only [List.getElem?_toArray, List.getElem?_cons_zero, List.getElem?_cons_succ, Option.some.injEq] at hi
      subst hi
      obtain ⟨S, eS, kS⟩ : Mk B γ wx (b.tmps[27]?.getD undef) 1 38 n (.slice none 0 0) := hR.at (j := 1) rfl (hpre ⟨1, .data⟩ (by simp) rfl)
      obtain ⟨L, eL, kL⟩ : Mk B γ wx (b.tmps[29]?.getD undef) 3 38 n (.slice none 0 0) := hR.at (j := 3) rfl (hpre ⟨3, .data⟩ (by simp) rfl)
      exact wp_of_value (v := .agg #[.slice (some ⟨S, 0, none⟩) n n, .slice (some ⟨L, 0, none⟩) n n, .int .i64 0]) (w' := wx) (by go_simp) ⟨_, γ, rfl, hG, Gw.refl _ _, by simp, S, L, rfl, kS⟩
    | 5, hi =>
      simp only [List.getElem?_toArray, List.getElem?_cons_zero, List.getElem?_cons_succ, Option.some.injEq] at hi
      subst hi
      obtain ⟨S, L, e4, kS⟩ : ∃ S L, b.tmps[30]?.getD undef = .agg #[.slice (some ⟨S, 0, none⟩) n n, .slice (some ⟨L, 0, none⟩) n n, .int .i64 0] ∧ Bk B γ wx S 1 38 n (.slice none 0 0) := hR.at (j := 4) rfl (hpre ⟨4, .data⟩ (by simp) rfl)
      exact wp_of_value (v := .pointer (some ⟨wx.heap.size, 0, none⟩)) (w' := wx.alloc (.cells (b.eval (.tmp 30)).cells 28)) (run_box _ _ _ _ _ rfl) ⟨_, fun k => if k = wx.heap.size then 5 else γ k, rfl, hG.alloc _, Gw.tag _ _ _, by simp, GrB.made hGs e4 kS⟩
    | 6, hi =>
      simp only [List.getElem?_toArray, List.getElem?_cons_zero, List.getElem?_cons_succ, Option.some.injEq] at hi
      subst hi
      have e5 : GrB n B γ wx (b.tmps[31]?.getD undef) := hR.at (j := 5) rfl (hpre ⟨5, .data⟩ (by simp) rfl)
      exact wp_of_value (v := b.tmps[31]?.getD undef) (w' := wx) (by go_simp) ⟨_, γ, rfl, hG, Gw.refl _ _, by simp, e5⟩
    | _ + 7, hi => simp at hi
  · intro listed γ b wx hall hR hG
    have h6 := hR.at (j := 6) (d := 9) rfl (hall 6 (by decide))
    exact hend _ _ γ hR.size (hR.ds.trans hds) (fun t ht hne => hR.old (by revert t; decide)) h6 hG
end Go.Proofs.YbulkbnbgDoor.Pr
