/-
  The staircase's 'add' (function 30), region 3: the new staircase's storage.
-/
import Derived.Test.YbulkbnbuGrow
namespace Go.Proofs.Ybulkbnbu.Kn
set_option linter.unusedSimpArgs false
set_option linter.unusedVariables false
open Go.ChangeShapes Go.WideShapes Go.ChangeAt Go.RowKit
open Go.Proofs.Ybulkbnbu.Fl

/-- A new row of no element, with room. -/
def Own7 (B H L e : Nat) (a : Option Addr) (γ : Option Nat) (v : Value) (wx : World) : Prop :=
  ∃ g c, v = .slice (some ⟨g, 0, none⟩) 0 c ∧ wx.ownsRow B e 1 (.slice (some ⟨g, 0, none⟩) 0 c) 0 [] ∧ L + L ≤ c ∧ (a = some ⟨g, 0, none⟩ ∨ H ≤ g) ∧ γ ≠ some g
structure Gr3 (γ : Option Nat) (w : World) (γ' : Option Nat) (w' : World) : Prop where
  size : w.heap.size ≤ w'.heap.size
  block : ∀ k, k < w.heap.size → γ ≠ some k → w'.heap[k]? = w.heap[k]?
  keep : ∀ x, γ = some x → γ' = some x
  new : ∀ x, γ' = some x → γ = some x ∨ w.heap.size ≤ x
theorem Gr3.refl (γ : Option Nat) (w : World) : Gr3 γ w γ w := ⟨Nat.le_refl _, fun _ _ _ => rfl, fun _ h => h, fun _ h => Or.inl h⟩
theorem Own7.go {B H L e : Nat} {a : Option Addr} {γ γ' : Option Nat} {v : Value} {w w' : World} (h : Own7 B H L e a γ v w) (hg : Gr3 γ w γ' w') : Own7 B H L e a γ' v w' := by
  obtain ⟨g, c, h1, h2, h3, h4, h5⟩ := h
  have hl := ownsRow_lt h2 g rfl
  refine ⟨g, c, h1, ownsRow_of_block h2 (fun k hk => ?_), h3, h4, fun h => ?_⟩
  · simp [Value.ownBlock] at hk; subst hk; exact hg.block g hl h5
  · rcases hg.new g h with h | h
    · exact h5 h
    · omega
structure GG3 (B H L : Nat) (aS aV : Option Addr) (w : World) (l17 l18 : Bool) (γ : Option Nat) (wx : World) : Prop where
  keeps : Keeps (fun _ => False) w wx
  lt : ∀ x, γ = some x → H ≤ x ∧ x < wx.heap.size
  no : l17 = false → γ = none
  open_ : ∀ x, γ = some x → l18 = false → wx.rowIs x 56 2 (fun _ => .slice none 0 0)
  shut : ∀ x, l18 = true → γ = some x → ∃ v7 v15, wx.rowIs x 56 2 (fun j => if j = 0 then v7 else v15) ∧ Own7 B H L 3 aS γ v7 wx ∧ Own7 B H L 26 aV γ v15 wx
theorem row_new2 (w : World) (a b : Value) : (w.alloc (.cells #[a, b] 56)).rowIs w.heap.size 56 2 (fun j => if j = 0 then a else b) :=
  World.rowIs_alloc w #[a, b] 56 _ (fun i hi => by
    have : i = 0 ∨ i = 1 := by simp at hi; omega
    rcases this with rfl | rfl <;> rfl)
theorem GG3.alloc {B H L : Nat} {aS aV : Option Addr} {w wx : World} {l m : Bool} {γ : Option Nat} (h : GG3 B H L aS aV w l m γ wx) (o : Obj) : GG3 B H L aS aV w l m γ (wx.drew.alloc o) := by
  have hb : ∀ k, k < wx.heap.size → (wx.drew.alloc o).heap[k]? = wx.heap[k]? := fun k hk => Below.heap_alloc _ _ _ hk
  refine ⟨h.keeps.drew.alloc o, fun x hx => ⟨(h.lt x hx).1, by have := (h.lt x hx).2; simp; omega⟩, h.no, fun x hx hl => (h.open_ x hx hl).of_block (hb x (h.lt x hx).2), fun x hl hx => ?_⟩
  obtain ⟨v7, v15, h1, h2, h3⟩ := h.shut x hl hx
  have hg : Gr3 γ wx γ (wx.drew.alloc o) := ⟨by simp, fun k hk _ => hb k hk, fun _ h => h, fun _ h => Or.inl h⟩
  exact ⟨v7, v15, h1.of_block (hb x (h.lt x hx).2), h2.go hg, h3.go hg⟩

set_option maxRecDepth 100000 in
set_option maxHeartbeats 8000000 in
theorem r3 {Q : Exit → Act → World → Prop} (B b8 sz L cS nS cdS nV cdV : Nat) (aS aV : Option Addr) (yS yV : List Value) (f : Act) (w : World) (hB : B ≤ w.heap.size) (hL0 : 0 < L) (hL : L ≤ 1000)
    (hc0 : w.cell? ⟨b8, 0, none⟩ = some (.slice aS nS cdS)) (hc1 : w.cell? ⟨b8, 1, none⟩ = some (.slice aV nV cdV)) (hdS : w.ownsRow B 3 1 (.slice aS nS cdS) nS yS) (hdV : w.ownsRow B 26 1 (.slice aV nV cdV) nV yV)
    (hsz : f.tmps.size = 285) (hds : f.defers = []) (ht8 : f.tmps[8]?.getD undef = .pointer (some ⟨b8, 0, none⟩)) (ht12 : f.tmps[12]?.getD undef = .slice (some ⟨sz, 0, none⟩) L cS) (ht14 : f.tmps[14]?.getD undef = .int .i64 (L : Int))
    (hend : ∀ f' w' hb gs gv cs cv, f'.tmps.size = 285 → f'.defers = [] → (∀ t, t < 16 → f'.tmps[t]?.getD undef = f.tmps[t]?.getD undef) → (∀ t, 16 < t → t < 40 → f'.tmps[t]?.getD undef = f.tmps[t]?.getD undef) → f'.tmps[16]?.getD undef = .pointer (some ⟨hb, 0, none⟩) → Out B w' hb gs gv cs cv 0 0 [] [] → L + L ≤ cs → L + L ≤ cv →
      (aS = some ⟨gs, 0, none⟩ ∨ w.heap.size ≤ gs) → (aV = some ⟨gv, 0, none⟩ ∨ w.heap.size ≤ gv) → w.heap.size ≤ hb → Keeps (fun _ => False) w w' → Q .normal f' w') :
    Code.wp Yba.prog ((Yba.f30.body.bind (reg 3)).getD .skip) Q f w := by
  conv => arg 2; whnf
  have hnS : (0 : Int) ≤ (cdS : Int) := by omega
  have hnV : (0 : Int) ≤ (cdV : Int) := by omega
  refine ops_lawG (N := 285) f w (by kernel_rfl) hsz hds (fun i γ v wx => match i with
    | 7 => Own7 B w.heap.size L 3 aS γ v wx
    | 15 => Own7 B w.heap.size L 26 aV γ v wx
    | 16 => ∃ v7 v15, v = .agg #[v7, v15] ∧ Own7 B w.heap.size L 3 aS γ v7 wx ∧ Own7 B w.heap.size L 26 aV γ v15 wx
    | 17 => ∃ hb, γ = some hb ∧ v = .pointer (some ⟨hb, 0, none⟩)
    | i => v = (fun i => match i with
    | 0 => .pointer (some ⟨b8, 0, none⟩)
    | 1 => .slice aS nS cdS
    | 2 => .slice aS 0 cdS
    | 3 => .slice (some ⟨sz, 0, none⟩) L cS
    | 4 => .int .i64 (L : Int)
    | 5 => .int .i64 (L : Int)
    | 6 => .int .i64 ((L + L : Nat) : Int)
    | 8 => .pointer (some ⟨b8, 1, none⟩)
    | 9 => .slice aV nV cdV
    | 10 => .slice aV 0 cdV
    | 11 => .slice (some ⟨sz, 0, none⟩) L cS
    | 12 => .int .i64 (L : Int)
    | 13 => .int .i64 (L : Int)
    | 14 => .int .i64 ((L + L : Nat) : Int)
    | 18 => undef
    | _ => undef : Nat → Value) i) (fun l γ wx => GG3 B w.heap.size L aS aV w (l 17) (l 18) γ wx) Gr3 none ?_ ⟨(Keeps.refl _ _).drew, fun x h => (by cases h), fun _ => rfl, fun x h => (by cases h), fun x _ h => (by cases h)⟩ ?_ ?_
  · intro i γ v wx γ' wx' hg h
    split at h
    · exact h.go hg
    · exact h.go hg
    · obtain ⟨v7, v15, h1, h2, h3⟩ := h
      exact ⟨v7, v15, h1, h2.go hg, h3.go hg⟩
    · obtain ⟨hb, h1, h2⟩ := h
      exact ⟨hb, hg.keep hb h1, h2⟩
    · exact h
  · intro i o hi l γ b wx hun haft hpre hW hold hG
    match i, hi, hun, haft with
    | 0, hi, hun, haft =>
      simp only [List.getElem?_toArray, List.getElem?_cons_zero, List.getElem?_cons_succ, Option.some.injEq] at hi
      subst hi
      have e8 : b.tmps[8]?.getD undef = .pointer (some ⟨b8, 0, none⟩) := (hold 8 (by decide)).trans ht8
      refine wp_of_value (w' := wx) (v := .pointer (some ⟨b8, 0, none⟩)) ?_ ⟨_, γ, rfl, hG, Gr3.refl _ _, fun h => (by cases h), rfl⟩
      clear hW hold hpre haft hG
      go_simp
    | 1, hi, hun, haft =>
      simp only [List.getElem?_toArray, List.getElem?_cons_zero, List.getElem?_cons_succ, Option.some.injEq] at hi
      subst hi
      have e40 : b.tmps[40]?.getD undef = .pointer (some ⟨b8, 0, none⟩) := hW 0 40 (hpre ⟨0, .data⟩ (by simp) rfl) rfl
      refine wp_of_value (w' := wx) (v := .slice aS nS cdS) ?_ ⟨_, γ, rfl, hG, Gr3.refl _ _, fun h => (by cases h), rfl⟩
      have k8 := hG.keeps.cell hc0 (fun h => h)
      clear hW hold hpre haft hG
      go_simp
    | 2, hi, hun, haft =>
      simp only [List.getElem?_toArray, List.getElem?_cons_zero, List.getElem?_cons_succ, Option.some.injEq] at hi
      subst hi
      have e41 : b.tmps[41]?.getD undef = .slice aS nS cdS := hW 1 41 (hpre ⟨1, .data⟩ (by simp) rfl) rfl
      refine wp_of_value (w' := wx) (v := .slice aS 0 cdS) ?_ ⟨_, γ, rfl, hG, Gr3.refl _ _, fun h => (by cases h), rfl⟩
      clear hW hold hpre haft hG
      go_simp
      <;> (try (simp [hnS]))
    | 3, hi, hun, haft =>
      simp only [List.getElem?_toArray, List.getElem?_cons_zero, List.getElem?_cons_succ, Option.some.injEq] at hi
      subst hi
      have e12 : b.tmps[12]?.getD undef = .slice (some ⟨sz, 0, none⟩) L cS := (hold 12 (by decide)).trans ht12
      refine wp_of_value (w' := wx) (v := .slice (some ⟨sz, 0, none⟩) L cS) ?_ ⟨_, γ, rfl, hG, Gr3.refl _ _, fun h => (by cases h), rfl⟩
      clear hW hold hpre haft hG
      go_simp
    | 4, hi, hun, haft =>
      simp only [List.getElem?_toArray, List.getElem?_cons_zero, List.getElem?_cons_succ, Option.some.injEq] at hi
      subst hi
      have e43 : b.tmps[43]?.getD undef = .slice (some ⟨sz, 0, none⟩) L cS := hW 3 43 (hpre ⟨3, .data⟩ (by simp) rfl) rfl
      refine wp_of_value (w' := wx) (v := .int .i64 (L : Int)) ?_ ⟨_, γ, rfl, hG, Gr3.refl _ _, fun h => (by cases h), rfl⟩
      clear hW hold hpre haft hG
      go_simp
    | 5, hi, hun, haft =>
      simp only [List.getElem?_toArray, List.getElem?_cons_zero, List.getElem?_cons_succ, Option.some.injEq] at hi
      subst hi
      have e14 : b.tmps[14]?.getD undef = .int .i64 (L : Int) := (hold 14 (by decide)).trans ht14
      refine wp_of_value (w' := wx) (v := .int .i64 (L : Int)) ?_ ⟨_, γ, rfl, hG, Gr3.refl _ _, fun h => (by cases h), rfl⟩
      clear hW hold hpre haft hG
      go_simp
    | 6, hi, hun, haft =>
      simp only [List.getElem?_toArray, List.getElem?_cons_zero, List.getElem?_cons_succ, Option.some.injEq] at hi
      subst hi
      have e44 : b.tmps[44]?.getD undef = .int .i64 (L : Int) := hW 4 44 (hpre ⟨4, .data⟩ (by simp) rfl) rfl
      have e45 : b.tmps[45]?.getD undef = .int .i64 (L : Int) := hW 5 45 (hpre ⟨5, .data⟩ (by simp) rfl) rfl
      refine wp_of_value (w' := wx) (v := .int .i64 ((L + L : Nat) : Int)) ?_ ⟨_, γ, rfl, hG, Gr3.refl _ _, fun h => (by cases h), rfl⟩
      clear hW hold hpre haft hG
      go_simp
      rw [IntKind.wrap_i64]; omega
    | 7, hi, hun, haft =>
      simp only [List.getElem?_toArray, List.getElem?_cons_zero, List.getElem?_cons_succ, Option.some.injEq] at hi
      subst hi
      have e42 : b.tmps[42]?.getD undef = .slice aS 0 cdS := hW 2 42 (hpre ⟨2, .data⟩ (by simp) rfl) rfl
      have e46 : b.tmps[46]?.getD undef = .int .i64 ((L + L : Nat) : Int) := hW 6 46 (hpre ⟨6, .data⟩ (by simp) rfl) rfl
      have hown := own_cut (ownsRow_of_block (w' := wx) hdS (fun g hg => hG.keeps.block g (ownsRow_lt hdS g hg) (fun h => h)))
      have hH := hG.keeps.size
      refine wp_of_call (w1 := wx) (f := 43) (args := #[.slice aS 0 cdS, .int .i64 ((L + L : Nat) : Int)]) ?_ ?_
      · clear hW hold hpre haft hG hown hH
        go_simp
      · refine (growI B aS 0 cdS (L + L) [] wx hown (by omega) (by omega) (by omega) (by omega)).mono ?_
        rintro ee w' ⟨g, c, rfl, ho, hcap, hcase⟩
        have hcap' : L + L ≤ c := by omega
        refine ⟨_, rfl, _, γ, rfl, ?_, ?_, fun h => (by cases h), ⟨g, c, rfl, ho, hcap', ?_, ?_⟩⟩
        · rcases hcase with ⟨_, rfl⟩ | ⟨_, o, rfl⟩
          · exact hG
          · exact hG.alloc o
        · rcases hcase with ⟨_, rfl⟩ | ⟨_, o, rfl⟩
          · exact Gr3.refl _ _
          · exact ⟨by simp, fun k hk _ => Below.heap_alloc _ _ _ hk, fun _ h => h, fun _ h => Or.inl h⟩
        · rcases hcase with ⟨h1, _⟩ | ⟨h1, _⟩
          · exact Or.inl h1
          · right; omega
        · intro hg
          obtain ⟨l1, l2⟩ := hG.lt _ hg
          rcases hcase with ⟨h1, _⟩ | ⟨h1, _⟩
          · have := ownsRow_lt hdS g (by rw [h1]; rfl)
            omega
          · omega
    | 8, hi, hun, haft =>
      simp only [List.getElem?_toArray, List.getElem?_cons_zero, List.getElem?_cons_succ, Option.some.injEq] at hi
      subst hi
      have e8 : b.tmps[8]?.getD undef = .pointer (some ⟨b8, 0, none⟩) := (hold 8 (by decide)).trans ht8
      refine wp_of_value (w' := wx) (v := .pointer (some ⟨b8, 1, none⟩)) ?_ ⟨_, γ, rfl, hG, Gr3.refl _ _, fun h => (by cases h), rfl⟩
      clear hW hold hpre haft hG
      go_simp
    | 9, hi, hun, haft =>
      simp only [List.getElem?_toArray, List.getElem?_cons_zero, List.getElem?_cons_succ, Option.some.injEq] at hi
      subst hi
      have e48 : b.tmps[48]?.getD undef = .pointer (some ⟨b8, 1, none⟩) := hW 8 48 (hpre ⟨8, .data⟩ (by simp) rfl) rfl
      refine wp_of_value (w' := wx) (v := .slice aV nV cdV) ?_ ⟨_, γ, rfl, hG, Gr3.refl _ _, fun h => (by cases h), rfl⟩
      have k8 := hG.keeps.cell hc1 (fun h => h)
      clear hW hold hpre haft hG
      go_simp
    | 10, hi, hun, haft =>
      simp only [List.getElem?_toArray, List.getElem?_cons_zero, List.getElem?_cons_succ, Option.some.injEq] at hi
      subst hi
      have e49 : b.tmps[49]?.getD undef = .slice aV nV cdV := hW 9 49 (hpre ⟨9, .data⟩ (by simp) rfl) rfl
      refine wp_of_value (w' := wx) (v := .slice aV 0 cdV) ?_ ⟨_, γ, rfl, hG, Gr3.refl _ _, fun h => (by cases h), rfl⟩
      clear hW hold hpre haft hG
      go_simp
    | 11, hi, hun, haft =>
      simp only [List.getElem?_toArray, List.getElem?_cons_zero, List.getElem?_cons_succ, Option.some.injEq] at hi
      subst hi
      have e12 : b.tmps[12]?.getD undef = .slice (some ⟨sz, 0, none⟩) L cS := (hold 12 (by decide)).trans ht12
      refine wp_of_value (w' := wx) (v := .slice (some ⟨sz, 0, none⟩) L cS) ?_ ⟨_, γ, rfl, hG, Gr3.refl _ _, fun h => (by cases h), rfl⟩
      clear hW hold hpre haft hG
      go_simp
    | 12, hi, hun, haft =>
      simp only [List.getElem?_toArray, List.getElem?_cons_zero, List.getElem?_cons_succ, Option.some.injEq] at hi
      subst hi
      have e51 : b.tmps[51]?.getD undef = .slice (some ⟨sz, 0, none⟩) L cS := hW 11 51 (hpre ⟨11, .data⟩ (by simp) rfl) rfl
      refine wp_of_value (w' := wx) (v := .int .i64 (L : Int)) ?_ ⟨_, γ, rfl, hG, Gr3.refl _ _, fun h => (by cases h), rfl⟩
      clear hW hold hpre haft hG
      go_simp
    | 13, hi, hun, haft =>
      simp only [List.getElem?_toArray, List.getElem?_cons_zero, List.getElem?_cons_succ, Option.some.injEq] at hi
      subst hi
      have e14 : b.tmps[14]?.getD undef = .int .i64 (L : Int) := (hold 14 (by decide)).trans ht14
      refine wp_of_value (w' := wx) (v := .int .i64 (L : Int)) ?_ ⟨_, γ, rfl, hG, Gr3.refl _ _, fun h => (by cases h), rfl⟩
      clear hW hold hpre haft hG
      go_simp
    | 14, hi, hun, haft =>
      simp only [List.getElem?_toArray, List.getElem?_cons_zero, List.getElem?_cons_succ, Option.some.injEq] at hi
      subst hi
      have e52 : b.tmps[52]?.getD undef = .int .i64 (L : Int) := hW 12 52 (hpre ⟨12, .data⟩ (by simp) rfl) rfl
      have e53 : b.tmps[53]?.getD undef = .int .i64 (L : Int) := hW 13 53 (hpre ⟨13, .data⟩ (by simp) rfl) rfl
      refine wp_of_value (w' := wx) (v := .int .i64 ((L + L : Nat) : Int)) ?_ ⟨_, γ, rfl, hG, Gr3.refl _ _, fun h => (by cases h), rfl⟩
      clear hW hold hpre haft hG
      go_simp
      rw [IntKind.wrap_i64]; omega
    | 15, hi, hun, haft =>
      simp only [List.getElem?_toArray, List.getElem?_cons_zero, List.getElem?_cons_succ, Option.some.injEq] at hi
      subst hi
      have e50 : b.tmps[50]?.getD undef = .slice aV 0 cdV := hW 10 50 (hpre ⟨10, .data⟩ (by simp) rfl) rfl
      have e54 : b.tmps[54]?.getD undef = .int .i64 ((L + L : Nat) : Int) := hW 14 54 (hpre ⟨14, .data⟩ (by simp) rfl) rfl
      have hown := own_cut (ownsRow_of_block (w' := wx) hdV (fun g hg => hG.keeps.block g (ownsRow_lt hdV g hg) (fun h => h)))
      have hH := hG.keeps.size
      refine wp_of_call (w1 := wx) (f := 44) (args := #[.slice aV 0 cdV, .int .i64 ((L + L : Nat) : Int)]) ?_ ?_
      · clear hW hold hpre haft hG hown hH
        go_simp
      · refine (growF B aV 0 cdV (L + L) [] wx hown (by omega) (by omega) (by omega) (by omega)).mono ?_
        rintro ee w' ⟨g, c, rfl, ho, hcap, hcase⟩
        have hcap' : L + L ≤ c := by omega
        refine ⟨_, rfl, _, γ, rfl, ?_, ?_, fun h => (by cases h), ⟨g, c, rfl, ho, hcap', ?_, ?_⟩⟩
        · rcases hcase with ⟨_, rfl⟩ | ⟨_, o, rfl⟩
          · exact hG
          · exact hG.alloc o
        · rcases hcase with ⟨_, rfl⟩ | ⟨_, o, rfl⟩
          · exact Gr3.refl _ _
          · exact ⟨by simp, fun k hk _ => Below.heap_alloc _ _ _ hk, fun _ h => h, fun _ h => Or.inl h⟩
        · rcases hcase with ⟨h1, _⟩ | ⟨h1, _⟩
          · exact Or.inl h1
          · right; omega
        · intro hg
          obtain ⟨l1, l2⟩ := hG.lt _ hg
          rcases hcase with ⟨h1, _⟩ | ⟨h1, _⟩
          · have := ownsRow_lt hdV g (by rw [h1]; rfl)
            omega
          · omega
    | 16, hi, hun, haft =>
      simp only [List.getElem?_toArray, List.getElem?_cons_zero, List.getElem?_cons_succ, Option.some.injEq] at hi
      subst hi
      have e47 := hW 7 47 (hpre ⟨7, .data⟩ (by simp) rfl) rfl
      have e55 := hW 15 55 (hpre ⟨15, .data⟩ (by simp) rfl) rfl
      refine wp_of_value (w' := wx) (v := .agg #[b.tmps[47]?.getD undef, b.tmps[55]?.getD undef]) ?_ ⟨_, γ, rfl, hG, Gr3.refl _ _, fun h => (by cases h), ⟨_, _, rfl, e47, e55⟩⟩
      obtain ⟨g7, c7, h7, _⟩ := e47
      obtain ⟨g15, c15, h15, _⟩ := e55
      clear hW hold hpre haft hG
      go_simp
    | 17, hi, hun, haft =>
      simp only [List.getElem?_toArray, List.getElem?_cons_zero, List.getElem?_cons_succ, Option.some.injEq] at hi
      subst hi
      have hno : γ = none := hG.no hun
      subst hno
      refine wp_of_value (w' := wx.alloc (.cells #[.slice none 0 0, .slice none 0 0] 56)) (v := .pointer (some ⟨wx.heap.size, 0, none⟩)) ?_ ⟨_, some wx.heap.size, rfl, ?_, ⟨by simp, fun k hk _ => Below.heap_alloc _ _ _ hk, fun _ h => (by cases h), fun x h => Or.inr (by simp at h; omega)⟩, fun h => (by cases h), ⟨_, rfl, rfl⟩⟩
      · clear hW hold hpre haft hG
        go_simp
      · have q18 : l 18 = false := haft 18 _ rfl ⟨17, .data⟩ (by simp) rfl rfl
        refine ⟨hG.keeps.alloc _, fun x h => ?_, fun h => ?_, fun x h => ?_, fun x h18 => ?_⟩
        · simp at h; subst h; exact ⟨hG.keeps.size, by simp⟩
        · simp at h
        · simp at h; subst h
          exact fun _ => (row_new2 wx _ _).congr (fun j _ => by simp)
        · simp only [Nat.reduceEqDiff, if_false, q18] at h18
          cases h18
    | 18, hi, hun, haft =>
      simp only [List.getElem?_toArray, List.getElem?_cons_zero, List.getElem?_cons_succ, Option.some.injEq] at hi
      subst hi
      have e16 := hW 17 16 (hpre ⟨17, .data⟩ (by simp) rfl) rfl
      have e56 := hW 16 56 (hpre ⟨16, .data⟩ (by simp) rfl) rfl
      obtain ⟨hb, hγ, e16⟩ := e16
      subst hγ
      obtain ⟨v7, v15, e56, o7, o15⟩ := e56
      obtain ⟨l1, l2⟩ := hG.lt hb rfl
      have hrow := hG.open_ hb rfl hun
      have k0 := hrow.cell (i := 0) (by omega)
      have k1 := hrow.cell (i := 1) (by omega)
      have f0 := hrow.frozen 0
      have f1 := hrow.frozen 1
      have o7' := o7
      have o15' := o15
      obtain ⟨g7, c7, rfl, hh7, hc7, hd7, hne7⟩ := o7
      obtain ⟨g15, c15, rfl, hh15, hc15, hd15, hne15⟩ := o15
      have n7 : g7 ≠ hb := fun e => hne7 (by rw [e])
      have n15 : g15 ≠ hb := fun e => hne15 (by rw [e])
      have key : ∀ k, k ≠ hb → ((wx.setCell ⟨hb, 0, none⟩ (.slice (some ⟨g7, 0, none⟩) 0 c7)).setCell ⟨hb, 1, none⟩ (.slice (some ⟨g15, 0, none⟩) 0 c15)).heap[k]? = wx.heap[k]? := fun k hk => (Below.heap_setCell _ _ _ _ hk).trans (Below.heap_setCell _ _ _ _ hk)
      refine wp_of_skip (w' := (wx.setCell ⟨hb, 0, none⟩ (.slice (some ⟨g7, 0, none⟩) 0 c7)).setCell ⟨hb, 1, none⟩ (.slice (some ⟨g15, 0, none⟩) 0 c15)) ?_ ⟨_, some hb, rfl, ?_, ⟨by simp, fun k hk hne => key k (fun e => hne (by rw [e])), fun _ h => h, fun _ h => Or.inl h⟩, fun _ => rfl, rfl⟩
      · clear hW hold hpre haft hG hrow key o7' o15' hh7 hh15
        go_simp
      · refine ⟨⟨hG.keeps.os, hG.keeps.tape, hG.keeps.output, by simpa using hG.keeps.size, fun k hk hn => (key k (by omega)).trans (hG.keeps.block k hk hn)⟩, fun x h => ?_, fun h => ?_, fun x h h18 => ?_, fun x _ h => ?_⟩
        · simp at h; subst h; exact ⟨l1, by simpa using l2⟩
        · have q17 : l 17 = true := hpre ⟨17, .data⟩ (by simp) rfl
          simp [q17] at h
        · simp at h18
        · simp at h; subst h
          have mv : ∀ {e : Nat} {g c : Nat}, g ≠ hb → wx.ownsRow B e 1 (.slice (some ⟨g, 0, none⟩) 0 c) 0 [] → ((wx.setCell ⟨hb, 0, none⟩ (.slice (some ⟨g7, 0, none⟩) 0 c7)).setCell ⟨hb, 1, none⟩ (.slice (some ⟨g15, 0, none⟩) 0 c15)).ownsRow B e 1 (.slice (some ⟨g, 0, none⟩) 0 c) 0 [] := fun hn ho => ownsRow_of_block ho (fun k hk => by
            simp [Value.ownBlock] at hk; subst hk; exact key _ hn)
          refine ⟨_, _, ((hrow.set 0 _).set 1 _).congr (fun j hj => ?_), ⟨g7, c7, rfl, mv n7 hh7, hc7, hd7, hne7⟩, ⟨g15, c15, rfl, mv n15 hh15, hc15, hd15, hne15⟩⟩
          have : j = 0 ∨ j = 1 := by omega
          rcases this with rfl | rfl <;> rfl
    | _ + 19, hi, _, _ => simp at hi
  · intro b wx l γ hsz' hds' hall hW hold hG
    obtain ⟨hb, hγ, e16⟩ := hW 17 16 rfl
    obtain ⟨v7, v15, hrow, ⟨gs, cs, rfl, o1, o2, o3, o4⟩, ⟨gv, cv, rfl, p1, p2, p3, p4⟩⟩ := hG.shut hb (hall 18 (by decide)) hγ
    refine hend b wx hb gs gv cs cv hsz' hds' (fun t ht => hold t (fun hm => by
      have hm' : t ∈ [40, 41, 42, 43, 44, 45, 46, 47, 48, 49, 50, 51, 52, 53, 54, 55, 56, 16] := hm
      simp at hm'; omega)) (fun t h1 h2 => hold t (fun hm => by
      have hm' : t ∈ [40, 41, 42, 43, 44, 45, 46, 47, 48, 49, 50, 51, 52, 53, 54, 55, 56, 16] := hm
      simp at hm'; omega)) e16 ⟨hrow, o1, p1, trivial⟩ o2 p2 o3 p3 (hG.lt hb hγ).1 hG.keeps
end Go.Proofs.Ybulkbnbu.Kn
