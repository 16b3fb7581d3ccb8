/-
  The curve's 'add' (function 12): its other drawn regions.
-/
import Derived.Test.YbulkbnbuC7
namespace Go.Proofs.Ybulkbnbu.Kn
set_option linter.unusedSimpArgs false
set_option linter.unusedVariables false
open Go.ChangeShapes Go.WideShapes Go.ChangeAt Go.RowKit
open Go.Proofs.Ybulkbnbu.Fl Go.Proofs.Ybulkbnbu.Pl
attribute [local go_sem] run_store_float
/-- What the staircase's 'add' hands back. -/
structure S6 (B H : Nat) (aS aV aW : Option Addr) (xs us sw : List Nat) (gs gv gw cs cv cw : Nat) (wx : World) : Prop where
  os : wx.ownsRow B 3 1 (.slice (some ⟨gs, 0, none⟩) xs.length cs) xs.length (ints xs)
  ov : wx.ownsRow B 26 1 (.slice (some ⟨gv, 0, none⟩) us.length cv) us.length (flts us)
  ow : wx.ownsRow B 3 1 (.slice (some ⟨gw, 0, none⟩) sw.length cw) sw.length (ints sw)
  ps : aS = some ⟨gs, 0, none⟩ ∨ H ≤ gs
  pv : aV = some ⟨gv, 0, none⟩ ∨ H ≤ gv
  pw : aW = some ⟨gw, 0, none⟩ ∨ H ≤ gw
  ne : gs ≠ gw
theorem S6.mono {B H H' : Nat} {aS aV aW : Option Addr} {xs us sw : List Nat} {gs gv gw cs cv cw : Nat} {wx : World} (h : S6 B H aS aV aW xs us sw gs gv gw cs cv cw wx) (hH : H' ≤ H) : S6 B H' aS aV aW xs us sw gs gv gw cs cv cw wx :=
  ⟨h.os, h.ov, h.ow, h.ps.imp id (fun h => by omega), h.pv.imp id (fun h => by omega), h.pw.imp id (fun h => by omega), h.ne⟩
/-- A world that differs at the curve alone. -/
theorem S6.far {B H : Nat} {aS aV aW : Option Addr} {xs us sw : List Nat} {gs gv gw cs cv cw cb : Nat} {f : Nat → Value} {wx w' : World} (h : S6 B H aS aV aW xs us sw gs gv gw cs cv cw wx) (hr : wx.rowIs cb 59 11 f) (hk : ∀ k, k ≠ cb → w'.heap[k]? = wx.heap[k]?) : S6 B H aS aV aW xs us sw gs gv gw cs cv cw w' := by
  obtain ⟨tc, htc⟩ := row_tag hr
  have n1 : gs ≠ cb := (tag_ne htc (ownsRow_tag h.os gs rfl).2.choose_spec (by decide)).symm
  have n2 : gv ≠ cb := (tag_ne htc (ownsRow_tag h.ov gv rfl).2.choose_spec (by decide)).symm
  have n3 : gw ≠ cb := (tag_ne htc (ownsRow_tag h.ow gw rfl).2.choose_spec (by decide)).symm
  exact ⟨ownsRow_of_block h.os (fun g hg => by simp [Value.ownBlock] at hg; subst hg; exact hk _ n1), ownsRow_of_block h.ov (fun g hg => by simp [Value.ownBlock] at hg; subst hg; exact hk _ n2), ownsRow_of_block h.ow (fun g hg => by simp [Value.ownBlock] at hg; subst hg; exact hk _ n3), h.ps, h.pv, h.pw, h.ne⟩
def d6 (cb : Nat) (aS aV aW : Option Addr) (k : Nat) : Prop := k = cb ∨ aS = some ⟨k, 0, none⟩ ∨ aV = some ⟨k, 0, none⟩ ∨ aW = some ⟨k, 0, none⟩
structure G6 (B cb room left sz vz L cS cV nS cdS nV cdV nW cW : Nat) (aS aV aW : Option Addr) (fr t k : Value) (xs us sw : List Nat) (w : World) (a b c : Bool) (γ : Option (Nat × Nat × Nat × Nat × Nat × Nat)) (wx : World) : Prop where
  keeps : Keeps (d6 cb aS aV aW) w wx
  before : a = false → γ = none ∧ Keeps (fun _ => False) w wx
  row : b = false ∧ c = false → wx.rowIs cb 59 11 (cvF room left (.slice (some ⟨sz, 0, none⟩) L cS) (.slice (some ⟨vz, 0, none⟩) L cV) (.slice aS nS cdS) (.slice aV nV cdV) (.slice aW nW cW) (fr) (t) (k))
  after : ∀ gs gv gw cs cv cw, γ = some (gs, gv, gw, cs, cv, cw) → S6 B w.heap.size aS aV aW xs us sw gs gv gw cs cv cw wx
  mid : b = true ∧ c = false → ∃ gs gv gw cs cv cw, γ = some (gs, gv, gw, cs, cv, cw) ∧ wx.rowIs cb 59 11 (cvF room left (.slice (some ⟨sz, 0, none⟩) L cS) (.slice (some ⟨vz, 0, none⟩) L cV) (.slice (some ⟨gs, 0, none⟩) xs.length cs) (.slice (some ⟨gv, 0, none⟩) us.length cv) (.slice aW nW cW) (fr) (t) (k))
  shut : c = true → ∃ gs gv gw cs cv cw, γ = some (gs, gv, gw, cs, cv, cw) ∧ wx.rowIs cb 59 11 (cvF room left (.slice (some ⟨sz, 0, none⟩) L cS) (.slice (some ⟨vz, 0, none⟩) L cV) (.slice (some ⟨gs, 0, none⟩) xs.length cs) (.slice (some ⟨gv, 0, none⟩) us.length cv) (.slice (some ⟨gw, 0, none⟩) sw.length cw) (fr) (t) (k))

set_option maxRecDepth 100000 in
set_option maxHeartbeats 8000000 in
theorem c6 {Q : Exit → Act → World → Prop} (B cb ib is iv room left sz vz L cS cV nS cdS nV cdV nW cW : Nat) (aS aV aW : Option Addr) (fr t k : Value) (xs us sw : List Nat) (f : Act) (w : World) (hsz : f.tmps.size = 191) (hds : f.defers = [])
    (ht0 : f.tmps[0]?.getD undef = .pointer (some ⟨cb, 0, none⟩)) (ht3 : f.tmps[3]?.getD undef = .pointer (some ⟨ib, 0, none⟩)) (hr : w.rowIs cb 59 11 (cvF room left (.slice (some ⟨sz, 0, none⟩) L cS) (.slice (some ⟨vz, 0, none⟩) L cV) (.slice aS nS cdS) (.slice aV nV cdV) (.slice aW nW cW) (fr) (t) (k))) (hi0 : w.cell? ⟨ib, 0, none⟩ = some (.int .i64 (is : Int))) (hi1 : w.cell? ⟨ib, 1, none⟩ = some (.float .f64 (W iv))) (hn : ¬ (aS = some ⟨cb, 0, none⟩ ∨ aV = some ⟨cb, 0, none⟩ ∨ aW = some ⟨cb, 0, none⟩))
    (hcall : ∀ wx, Keeps (fun _ => False) w wx → Calls Yba.prog 30 #[.agg #[.slice (some ⟨sz, 0, none⟩) L cS, .slice (some ⟨vz, 0, none⟩) L cV], .agg #[.int .i64 (is : Int), .float .f64 (W iv)], .int .i64 (room : Int), .agg #[.slice aS nS cdS, .slice aV nV cdV], .slice aW nW cW] wx fun e w' => ∃ gs gv gw cs cv cw, e = .returned (.tuple #[.agg #[.slice (some ⟨gs, 0, none⟩) xs.length cs, .slice (some ⟨gv, 0, none⟩) us.length cv], .slice (some ⟨gw, 0, none⟩) sw.length cw]) ∧ S6 B wx.heap.size aS aV aW xs us sw gs gv gw cs cv cw w' ∧ Keeps (fun k => aS = some ⟨k, 0, none⟩ ∨ aV = some ⟨k, 0, none⟩ ∨ aW = some ⟨k, 0, none⟩) wx w')
    (hend : ∀ f' w' gs gv gw cs cv cw, f'.tmps.size = 191 → f'.defers = [] → (∀ t, t < 67 → f'.tmps[t]?.getD undef = f.tmps[t]?.getD undef) → w'.rowIs cb 59 11 (cvF room left (.slice (some ⟨sz, 0, none⟩) L cS) (.slice (some ⟨vz, 0, none⟩) L cV) (.slice (some ⟨gs, 0, none⟩) xs.length cs) (.slice (some ⟨gv, 0, none⟩) us.length cv) (.slice (some ⟨gw, 0, none⟩) sw.length cw) (fr) (t) (k)) → S6 B w.heap.size aS aV aW xs us sw gs gv gw cs cv cw w' → Keeps (d6 cb aS aV aW) w w' → Q .normal f' w') :
    Code.wp Yba.prog ((Yba.f12.body.bind (reg 6)).getD .skip) Q f w := by
  conv => arg 2; whnf
  have lcb := hr.lt
  refine ops_lawG (N := 191) f w (by kernel_rfl) hsz hds (fun i γ v wx => match i with
    | 19 => ∃ gs gv gw cs cv cw, γ = some (gs, gv, gw, cs, cv, cw) ∧ v = .tuple #[.agg #[.slice (some ⟨gs, 0, none⟩) xs.length cs, .slice (some ⟨gv, 0, none⟩) us.length cv], .slice (some ⟨gw, 0, none⟩) sw.length cw]
    | 20 => ∃ gs gv gw cs cv cw, γ = some (gs, gv, gw, cs, cv, cw) ∧ v = .tuple #[.agg #[.slice (some ⟨gs, 0, none⟩) xs.length cs, .slice (some ⟨gv, 0, none⟩) us.length cv], .slice (some ⟨gw, 0, none⟩) sw.length cw]
    | 21 => ∃ gs gv gw cs cv cw, γ = some (gs, gv, gw, cs, cv, cw) ∧ v = .agg #[.slice (some ⟨gs, 0, none⟩) xs.length cs, .slice (some ⟨gv, 0, none⟩) us.length cv]
    | 22 => ∃ gs gv gw cs cv cw, γ = some (gs, gv, gw, cs, cv, cw) ∧ v = .slice (some ⟨gw, 0, none⟩) sw.length cw
    | i => v = (fun i => match i with
    | 0 => .pointer (some ⟨cb, 0, none⟩)
    | 1 => .pointer (some ⟨cb, 0, none⟩)
    | 2 => .pointer (some ⟨cb, 0, none⟩)
    | 3 => .pointer (some ⟨cb, 0, none⟩)
    | 4 => .pointer (some ⟨cb, 2, none⟩)
    | 5 => .agg #[.slice (some ⟨sz, 0, none⟩) L cS, .slice (some ⟨vz, 0, none⟩) L cV]
    | 6 => .agg #[.int .i64 (is : Int), .float .f64 (W iv)]
    | 7 => .pointer (some ⟨cb, 0, none⟩)
    | 8 => .pointer (some ⟨cb, 0, none⟩)
    | 9 => .pointer (some ⟨cb, 0, none⟩)
    | 10 => .int .i64 (room : Int)
    | 11 => .pointer (some ⟨cb, 0, none⟩)
    | 12 => .pointer (some ⟨cb, 0, none⟩)
    | 13 => .pointer (some ⟨cb, 4, none⟩)
    | 14 => .agg #[.slice aS nS cdS, .slice aV nV cdV]
    | 15 => .pointer (some ⟨cb, 0, none⟩)
    | 16 => .pointer (some ⟨cb, 0, none⟩)
    | 17 => .pointer (some ⟨cb, 6, none⟩)
    | 18 => .slice aW nW cW
    | 23 => .pointer (some ⟨cb, 0, none⟩)
    | 24 => .pointer (some ⟨cb, 4, none⟩)
    | 25 => undef
    | 26 => .pointer (some ⟨cb, 0, none⟩)
    | 27 => .pointer (some ⟨cb, 6, none⟩)
    | 28 => undef
    | _ => undef : Nat → Value) i) (fun l γ wx => G6 B cb room left sz vz L cS cV nS cdS nV cdV nW cW aS aV aW fr t k xs us sw w (l 19) (l 25) (l 28) γ wx) (fun γ _ γ' _ => ∀ p, γ = some p → γ' = some p) none ?_ ⟨(Keeps.refl _ _).drew, fun _ => ⟨rfl, (Keeps.refl _ _).drew⟩, fun _ => World.rowIs.drew hr, fun _ _ _ _ _ _ h => (by cases h), fun h => (by cases h.1), fun h => (by cases h)⟩ ?_ ?_
  · intro i γ v wx γ' wx' hg h
    split at h
    · obtain ⟨gs, gv, gw, cs, cv, cw, h1, h2⟩ := h
      exact ⟨gs, gv, gw, cs, cv, cw, hg _ h1, h2⟩
    · obtain ⟨gs, gv, gw, cs, cv, cw, h1, h2⟩ := h
      exact ⟨gs, gv, gw, cs, cv, cw, hg _ h1, h2⟩
    · obtain ⟨gs, gv, gw, cs, cv, cw, h1, h2⟩ := h
      exact ⟨gs, gv, gw, cs, cv, cw, hg _ h1, h2⟩
    · obtain ⟨gs, gv, gw, cs, cv, cw, h1, h2⟩ := h
      exact ⟨gs, gv, gw, cs, cv, cw, hg _ h1, h2⟩
    · exact h
  · intro i o hi l γ b wx hun haft hpre hW hold hG
    match i, hi, hun, haft with
    | 0, hi, hun, haft =>
      simp only [List.getElem?_toArray, List.getElem?_cons_zero, List.getElem?_cons_succ, Option.some.injEq] at hi
      subst hi
      have e0 : b.tmps[0]?.getD undef = .pointer (some ⟨cb, 0, none⟩) := (hold 0 (by decide)).trans ht0
      refine wp_of_value (w' := wx) (v := .pointer (some ⟨cb, 0, none⟩)) ?_ ⟨_, γ, rfl, hG, fun _ h => h, fun h => (by cases h), rfl⟩
      clear hW hold hpre haft hG hcall
      go_simp
    | 1, hi, hun, haft =>
      simp only [List.getElem?_toArray, List.getElem?_cons_zero, List.getElem?_cons_succ, Option.some.injEq] at hi
      subst hi
      have e0 : b.tmps[0]?.getD undef = .pointer (some ⟨cb, 0, none⟩) := (hold 0 (by decide)).trans ht0
      refine wp_of_value (w' := wx) (v := .pointer (some ⟨cb, 0, none⟩)) ?_ ⟨_, γ, rfl, hG, fun _ h => h, fun h => (by cases h), rfl⟩
      clear hW hold hpre haft hG hcall
      go_simp
    | 2, hi, hun, haft =>
      simp only [List.getElem?_toArray, List.getElem?_cons_zero, List.getElem?_cons_succ, Option.some.injEq] at hi
      subst hi
      have e0 : b.tmps[0]?.getD undef = .pointer (some ⟨cb, 0, none⟩) := (hold 0 (by decide)).trans ht0
      refine wp_of_value (w' := wx) (v := .pointer (some ⟨cb, 0, none⟩)) ?_ ⟨_, γ, rfl, hG, fun _ h => h, fun h => (by cases h), rfl⟩
      clear hW hold hpre haft hG hcall
      go_simp
    | 3, hi, hun, haft =>
      simp only [List.getElem?_toArray, List.getElem?_cons_zero, List.getElem?_cons_succ, Option.some.injEq] at hi
      subst hi
      have e70 : b.tmps[70]?.getD undef = .pointer (some ⟨cb, 0, none⟩) := hW 2 70 (hpre ⟨2, .data⟩ (by simp) rfl) rfl
      refine wp_of_value (w' := wx) (v := .pointer (some ⟨cb, 0, none⟩)) ?_ ⟨_, γ, rfl, hG, fun _ h => h, fun h => (by cases h), rfl⟩
      clear hW hold hpre haft hG hcall
      go_simp
    | 4, hi, hun, haft =>
      simp only [List.getElem?_toArray, List.getElem?_cons_zero, List.getElem?_cons_succ, Option.some.injEq] at hi
      subst hi
      have e71 : b.tmps[71]?.getD undef = .pointer (some ⟨cb, 0, none⟩) := hW 3 71 (hpre ⟨3, .data⟩ (by simp) rfl) rfl
      refine wp_of_value (w' := wx) (v := .pointer (some ⟨cb, 2, none⟩)) ?_ ⟨_, γ, rfl, hG, fun _ h => h, fun h => (by cases h), rfl⟩
      clear hW hold hpre haft hG hcall
      go_simp
    | 5, hi, hun, haft =>
      simp only [List.getElem?_toArray, List.getElem?_cons_zero, List.getElem?_cons_succ, Option.some.injEq] at hi
      subst hi
      have e72 : b.tmps[72]?.getD undef = .pointer (some ⟨cb, 2, none⟩) := hW 4 72 (hpre ⟨4, .data⟩ (by simp) rfl) rfl
      refine wp_of_value (w' := wx) (v := .agg #[.slice (some ⟨sz, 0, none⟩) L cS, .slice (some ⟨vz, 0, none⟩) L cV]) ?_ ⟨_, γ, rfl, hG, fun _ h => h, fun h => (by cases h), rfl⟩
      have qs : l 25 = false := haft 25 _ rfl ⟨5, .phase⟩ (by simp) rfl rfl
      have qs2 : l 28 = false := haft 28 _ rfl ⟨5, .phase⟩ (by simp) rfl rfl
      have k2 : wx.cell? ⟨cb, 2, none⟩ = some (.slice (some ⟨sz, 0, none⟩) L cS) := (hG.row ⟨qs, qs2⟩).cell (i := 2) (by omega)
      have k3 : wx.cell? ⟨cb, 3, none⟩ = some (.slice (some ⟨vz, 0, none⟩) L cV) := (hG.row ⟨qs, qs2⟩).cell (i := 3) (by omega)
      clear hW hold hpre haft hG hcall
      go_simp
    | 6, hi, hun, haft =>
      simp only [List.getElem?_toArray, List.getElem?_cons_zero, List.getElem?_cons_succ, Option.some.injEq] at hi
      subst hi
      have e3 : b.tmps[3]?.getD undef = .pointer (some ⟨ib, 0, none⟩) := (hold 3 (by decide)).trans ht3
      refine wp_of_value (w' := wx) (v := .agg #[.int .i64 (is : Int), .float .f64 (W iv)]) ?_ ⟨_, γ, rfl, hG, fun _ h => h, fun h => (by cases h), rfl⟩
      have qa : l 19 = false := haft 19 _ rfl ⟨6, .data⟩ (by simp) rfl rfl
      have i0' := (hG.before qa).2.cell hi0 (fun h => h)
      have i1' := (hG.before qa).2.cell hi1 (fun h => h)
      clear hW hold hpre haft hG hcall
      go_simp
    | 7, hi, hun, haft =>
      simp only [List.getElem?_toArray, List.getElem?_cons_zero, List.getElem?_cons_succ, Option.some.injEq] at hi
      subst hi
      have e0 : b.tmps[0]?.getD undef = .pointer (some ⟨cb, 0, none⟩) := (hold 0 (by decide)).trans ht0
      refine wp_of_value (w' := wx) (v := .pointer (some ⟨cb, 0, none⟩)) ?_ ⟨_, γ, rfl, hG, fun _ h => h, fun h => (by cases h), rfl⟩
      clear hW hold hpre haft hG hcall
      go_simp
    | 8, hi, hun, haft =>
      simp only [List.getElem?_toArray, List.getElem?_cons_zero, List.getElem?_cons_succ, Option.some.injEq] at hi
      subst hi
      have e75 : b.tmps[75]?.getD undef = .pointer (some ⟨cb, 0, none⟩) := hW 7 75 (hpre ⟨7, .data⟩ (by simp) rfl) rfl
      refine wp_of_value (w' := wx) (v := .pointer (some ⟨cb, 0, none⟩)) ?_ ⟨_, γ, rfl, hG, fun _ h => h, fun h => (by cases h), rfl⟩
      clear hW hold hpre haft hG hcall
      go_simp
    | 9, hi, hun, haft =>
      simp only [List.getElem?_toArray, List.getElem?_cons_zero, List.getElem?_cons_succ, Option.some.injEq] at hi
      subst hi
      have e76 : b.tmps[76]?.getD undef = .pointer (some ⟨cb, 0, none⟩) := hW 8 76 (hpre ⟨8, .data⟩ (by simp) rfl) rfl
      refine wp_of_value (w' := wx) (v := .pointer (some ⟨cb, 0, none⟩)) ?_ ⟨_, γ, rfl, hG, fun _ h => h, fun h => (by cases h), rfl⟩
      clear hW hold hpre haft hG hcall
      go_simp
    | 10, hi, hun, haft =>
      simp only [List.getElem?_toArray, List.getElem?_cons_zero, List.getElem?_cons_succ, Option.some.injEq] at hi
      subst hi
      have e77 : b.tmps[77]?.getD undef = .pointer (some ⟨cb, 0, none⟩) := hW 9 77 (hpre ⟨9, .data⟩ (by simp) rfl) rfl
      refine wp_of_value (w' := wx) (v := .int .i64 (room : Int)) ?_ ⟨_, γ, rfl, hG, fun _ h => h, fun h => (by cases h), rfl⟩
      have qs : l 25 = false := haft 25 _ rfl ⟨10, .phase⟩ (by simp) rfl rfl
      have qs2 : l 28 = false := haft 28 _ rfl ⟨10, .phase⟩ (by simp) rfl rfl
      have k0 : wx.cell? ⟨cb, 0, none⟩ = some (.int .i64 (room : Int)) := (hG.row ⟨qs, qs2⟩).cell (i := 0) (by omega)
      clear hW hold hpre haft hG hcall
      go_simp
    | 11, hi, hun, haft =>
      simp only [List.getElem?_toArray, List.getElem?_cons_zero, List.getElem?_cons_succ, Option.some.injEq] at hi
      subst hi
      have e0 : b.tmps[0]?.getD undef = .pointer (some ⟨cb, 0, none⟩) := (hold 0 (by decide)).trans ht0
      refine wp_of_value (w' := wx) (v := .pointer (some ⟨cb, 0, none⟩)) ?_ ⟨_, γ, rfl, hG, fun _ h => h, fun h => (by cases h), rfl⟩
      clear hW hold hpre haft hG hcall
      go_simp
    | 12, hi, hun, haft =>
      simp only [List.getElem?_toArray, List.getElem?_cons_zero, List.getElem?_cons_succ, Option.some.injEq] at hi
      subst hi
      have e79 : b.tmps[79]?.getD undef = .pointer (some ⟨cb, 0, none⟩) := hW 11 79 (hpre ⟨11, .data⟩ (by simp) rfl) rfl
      refine wp_of_value (w' := wx) (v := .pointer (some ⟨cb, 0, none⟩)) ?_ ⟨_, γ, rfl, hG, fun _ h => h, fun h => (by cases h), rfl⟩
      clear hW hold hpre haft hG hcall
      go_simp
    | 13, hi, hun, haft =>
      simp only [List.getElem?_toArray, List.getElem?_cons_zero, List.getElem?_cons_succ, Option.some.injEq] at hi
      subst hi
      have e80 : b.tmps[80]?.getD undef = .pointer (some ⟨cb, 0, none⟩) := hW 12 80 (hpre ⟨12, .data⟩ (by simp) rfl) rfl
      refine wp_of_value (w' := wx) (v := .pointer (some ⟨cb, 4, none⟩)) ?_ ⟨_, γ, rfl, hG, fun _ h => h, fun h => (by cases h), rfl⟩
      clear hW hold hpre haft hG hcall
      go_simp
    | 14, hi, hun, haft =>
      simp only [List.getElem?_toArray, List.getElem?_cons_zero, List.getElem?_cons_succ, Option.some.injEq] at hi
      subst hi
      have e81 : b.tmps[81]?.getD undef = .pointer (some ⟨cb, 4, none⟩) := hW 13 81 (hpre ⟨13, .data⟩ (by simp) rfl) rfl
      refine wp_of_value (w' := wx) (v := .agg #[.slice aS nS cdS, .slice aV nV cdV]) ?_ ⟨_, γ, rfl, hG, fun _ h => h, fun h => (by cases h), rfl⟩
      have qs : l 25 = false := haft 25 _ rfl ⟨14, .phase⟩ (by simp) rfl rfl
      have qs2 : l 28 = false := haft 28 _ rfl ⟨14, .phase⟩ (by simp) rfl rfl
      have k4 : wx.cell? ⟨cb, 4, none⟩ = some (.slice aS nS cdS) := (hG.row ⟨qs, qs2⟩).cell (i := 4) (by omega)
      have k5 : wx.cell? ⟨cb, 5, none⟩ = some (.slice aV nV cdV) := (hG.row ⟨qs, qs2⟩).cell (i := 5) (by omega)
      clear hW hold hpre haft hG hcall
      go_simp
    | 15, hi, hun, haft =>
      simp only [List.getElem?_toArray, List.getElem?_cons_zero, List.getElem?_cons_succ, Option.some.injEq] at hi
      subst hi
      have e0 : b.tmps[0]?.getD undef = .pointer (some ⟨cb, 0, none⟩) := (hold 0 (by decide)).trans ht0
      refine wp_of_value (w' := wx) (v := .pointer (some ⟨cb, 0, none⟩)) ?_ ⟨_, γ, rfl, hG, fun _ h => h, fun h => (by cases h), rfl⟩
      clear hW hold hpre haft hG hcall
      go_simp
    | 16, hi, hun, haft =>
      simp only [List.getElem?_toArray, List.getElem?_cons_zero, List.getElem?_cons_succ, Option.some.injEq] at hi
      subst hi
      have e83 : b.tmps[83]?.getD undef = .pointer (some ⟨cb, 0, none⟩) := hW 15 83 (hpre ⟨15, .data⟩ (by simp) rfl) rfl
      refine wp_of_value (w' := wx) (v := .pointer (some ⟨cb, 0, none⟩)) ?_ ⟨_, γ, rfl, hG, fun _ h => h, fun h => (by cases h), rfl⟩
      clear hW hold hpre haft hG hcall
      go_simp
    | 17, hi, hun, haft =>
      simp only [List.getElem?_toArray, List.getElem?_cons_zero, List.getElem?_cons_succ, Option.some.injEq] at hi
      subst hi
      have e84 : b.tmps[84]?.getD undef = .pointer (some ⟨cb, 0, none⟩) := hW 16 84 (hpre ⟨16, .data⟩ (by simp) rfl) rfl
      refine wp_of_value (w' := wx) (v := .pointer (some ⟨cb, 6, none⟩)) ?_ ⟨_, γ, rfl, hG, fun _ h => h, fun h => (by cases h), rfl⟩
      clear hW hold hpre haft hG hcall
      go_simp
    | 18, hi, hun, haft =>
      simp only [List.getElem?_toArray, List.getElem?_cons_zero, List.getElem?_cons_succ, Option.some.injEq] at hi
      subst hi
      have e85 : b.tmps[85]?.getD undef = .pointer (some ⟨cb, 6, none⟩) := hW 17 85 (hpre ⟨17, .data⟩ (by simp) rfl) rfl
      refine wp_of_value (w' := wx) (v := .slice aW nW cW) ?_ ⟨_, γ, rfl, hG, fun _ h => h, fun h => (by cases h), rfl⟩
      have qs : l 25 = false := haft 25 _ rfl ⟨18, .phase⟩ (by simp) rfl rfl
      have qs2 : l 28 = false := haft 28 _ rfl ⟨18, .phase⟩ (by simp) rfl rfl
      have k6 : wx.cell? ⟨cb, 6, none⟩ = some (.slice aW nW cW) := (hG.row ⟨qs, qs2⟩).cell (i := 6) (by omega)
      clear hW hold hpre haft hG hcall
      go_simp
    | 19, hi, hun, haft =>
      simp only [List.getElem?_toArray, List.getElem?_cons_zero, List.getElem?_cons_succ, Option.some.injEq] at hi
      subst hi
      have e73 : b.tmps[73]?.getD undef = .agg #[.slice (some ⟨sz, 0, none⟩) L cS, .slice (some ⟨vz, 0, none⟩) L cV] := hW 5 73 (hpre ⟨5, .data⟩ (by simp) rfl) rfl
      have e74 : b.tmps[74]?.getD undef = .agg #[.int .i64 (is : Int), .float .f64 (W iv)] := hW 6 74 (hpre ⟨6, .data⟩ (by simp) rfl) rfl
      have e78 : b.tmps[78]?.getD undef = .int .i64 (room : Int) := hW 10 78 (hpre ⟨10, .data⟩ (by simp) rfl) rfl
      have e82 : b.tmps[82]?.getD undef = .agg #[.slice aS nS cdS, .slice aV nV cdV] := hW 14 82 (hpre ⟨14, .data⟩ (by simp) rfl) rfl
      have e86 : b.tmps[86]?.getD undef = .slice aW nW cW := hW 18 86 (hpre ⟨18, .data⟩ (by simp) rfl) rfl
      obtain ⟨hγ, hkF⟩ := hG.before hun
      subst hγ
      have q25 : l 25 = false := haft 25 _ rfl ⟨19, .chain⟩ (by simp) rfl rfl
      have q28 : l 28 = false := haft 28 _ rfl ⟨19, .phase⟩ (by simp) rfl rfl
      have hsz' := hG.keeps.size
      refine wp_of_call (w1 := wx) (f := 30) (args := #[.agg #[.slice (some ⟨sz, 0, none⟩) L cS, .slice (some ⟨vz, 0, none⟩) L cV], .agg #[.int .i64 (is : Int), .float .f64 (W iv)], .int .i64 (room : Int), .agg #[.slice aS nS cdS, .slice aV nV cdV], .slice aW nW cW]) ?_ ?_
      · clear hW hold hpre haft hG hcall hkF
        go_simp
      · refine (hcall wx hkF).mono ?_
        rintro ee w' ⟨gs, gv, gw, cs, cv, cw, rfl, hS, hk⟩
        refine ⟨_, rfl, _, some (gs, gv, gw, cs, cv, cw), rfl, ⟨hG.keeps.trans hk (fun k _ h => Or.inr h), fun h => ?_, fun _ => (hG.row ⟨q25, q28⟩).of_block (hk.block cb (by omega) hn), fun gs gv gw cs cv cw h => ?_, fun h => ?_, fun h => ?_⟩, fun _ h => (by cases h), fun h => (by cases h), ⟨gs, gv, gw, cs, cv, cw, rfl, rfl⟩⟩
        · simp at h
        · simp at h; obtain ⟨rfl, rfl, rfl, rfl, rfl, rfl⟩ := h; exact hS.mono hsz'
        · simp [q25] at h
        · simp [q28] at h
    | 20, hi, hun, haft =>
      simp only [List.getElem?_toArray, List.getElem?_cons_zero, List.getElem?_cons_succ, Option.some.injEq] at hi
      subst hi
      have e87 := hW 19 87 (hpre ⟨19, .data⟩ (by simp) rfl) rfl
      obtain ⟨gs, gv, gw, cs, cv, cw, hγ, e87⟩ := e87
      refine wp_of_value (w' := wx) (v := .tuple #[.agg #[.slice (some ⟨gs, 0, none⟩) xs.length cs, .slice (some ⟨gv, 0, none⟩) us.length cv], .slice (some ⟨gw, 0, none⟩) sw.length cw]) ?_ ⟨_, γ, rfl, hG, fun _ h => h, fun h => (by cases h), ⟨gs, gv, gw, cs, cv, cw, hγ, rfl⟩⟩
      clear hW hold hpre haft hG hcall
      go_simp
    | 21, hi, hun, haft =>
      simp only [List.getElem?_toArray, List.getElem?_cons_zero, List.getElem?_cons_succ, Option.some.injEq] at hi
      subst hi
      have e67 := hW 20 67 (hpre ⟨20, .data⟩ (by simp) rfl) rfl
      obtain ⟨gs, gv, gw, cs, cv, cw, hγ, e67⟩ := e67
      refine wp_of_value (w' := wx) (v := .agg #[.slice (some ⟨gs, 0, none⟩) xs.length cs, .slice (some ⟨gv, 0, none⟩) us.length cv]) ?_ ⟨_, γ, rfl, hG, fun _ h => h, fun h => (by cases h), ⟨gs, gv, gw, cs, cv, cw, hγ, rfl⟩⟩
      clear hW hold hpre haft hG hcall
      go_simp
    | 22, hi, hun, haft =>
      simp only [List.getElem?_toArray, List.getElem?_cons_zero, List.getElem?_cons_succ, Option.some.injEq] at hi
      subst hi
      have e67 := hW 20 67 (hpre ⟨20, .data⟩ (by simp) rfl) rfl
      obtain ⟨gs, gv, gw, cs, cv, cw, hγ, e67⟩ := e67
      refine wp_of_value (w' := wx) (v := .slice (some ⟨gw, 0, none⟩) sw.length cw) ?_ ⟨_, γ, rfl, hG, fun _ h => h, fun h => (by cases h), ⟨gs, gv, gw, cs, cv, cw, hγ, rfl⟩⟩
      clear hW hold hpre haft hG hcall
      go_simp
    | 23, hi, hun, haft =>
      simp only [List.getElem?_toArray, List.getElem?_cons_zero, List.getElem?_cons_succ, Option.some.injEq] at hi
      subst hi
      have e68 : b.tmps[68]?.getD undef = .pointer (some ⟨cb, 0, none⟩) := hW 0 68 (hpre ⟨0, .data⟩ (by simp) rfl) rfl
      refine wp_of_value (w' := wx) (v := .pointer (some ⟨cb, 0, none⟩)) ?_ ⟨_, γ, rfl, hG, fun _ h => h, fun h => (by cases h), rfl⟩
      clear hW hold hpre haft hG hcall
      go_simp
    | 24, hi, hun, haft =>
      simp only [List.getElem?_toArray, List.getElem?_cons_zero, List.getElem?_cons_succ, Option.some.injEq] at hi
      subst hi
      have e90 : b.tmps[90]?.getD undef = .pointer (some ⟨cb, 0, none⟩) := hW 23 90 (hpre ⟨23, .data⟩ (by simp) rfl) rfl
      refine wp_of_value (w' := wx) (v := .pointer (some ⟨cb, 4, none⟩)) ?_ ⟨_, γ, rfl, hG, fun _ h => h, fun h => (by cases h), rfl⟩
      clear hW hold hpre haft hG hcall
      go_simp
    | 25, hi, hun, haft =>
      simp only [List.getElem?_toArray, List.getElem?_cons_zero, List.getElem?_cons_succ, Option.some.injEq] at hi
      subst hi
      have e91 : b.tmps[91]?.getD undef = .pointer (some ⟨cb, 4, none⟩) := hW 24 91 (hpre ⟨24, .data⟩ (by simp) rfl) rfl
      have e88 := hW 21 88 (hpre ⟨21, .data⟩ (by simp) rfl) rfl
      obtain ⟨gs, gv, gw, cs, cv, cw, hγ, e88⟩ := e88
      have q28 : l 28 = false := haft 28 _ rfl ⟨25, .chain⟩ (by simp) rfl rfl
      have q19 : l 19 = true := hpre ⟨19, .chain⟩ (by simp) rfl
      have hr' := hG.row ⟨hun, q28⟩
      have k2 : wx.cell? ⟨cb, 4, none⟩ = some (.slice aS nS cdS) := hr'.cell (i := 4) (by omega)
      have k3 : wx.cell? ⟨cb, 5, none⟩ = some (.slice aV nV cdV) := hr'.cell (i := 5) (by omega)
      have f2 := hr'.frozen 4
      have f3 := hr'.frozen 5
      have key : ∀ k, k ≠ cb → ((wx.setCell ⟨cb, 4, none⟩ (.slice (some ⟨gs, 0, none⟩) xs.length cs)).setCell ⟨cb, 5, none⟩ (.slice (some ⟨gv, 0, none⟩) us.length cv)).heap[k]? = wx.heap[k]? := fun k hk => (Below.heap_setCell _ _ _ _ hk).trans (Below.heap_setCell _ _ _ _ hk)
      refine wp_of_skip (w' := (wx.setCell ⟨cb, 4, none⟩ (.slice (some ⟨gs, 0, none⟩) xs.length cs)).setCell ⟨cb, 5, none⟩ (.slice (some ⟨gv, 0, none⟩) us.length cv)) ?_ ⟨_, γ, rfl, ⟨(hG.keeps.setCell (fun _ => Or.inl rfl) _).setCell (fun _ => Or.inl rfl) _, fun h => ?_, fun h => ?_, fun gs gv gw cs cv cw h => (hG.after gs gv gw cs cv cw h).far hr' key, fun _ => ⟨gs, gv, gw, cs, cv, cw, hγ, ((hr'.set 4 _).set 5 _).congr (fun j hj => by rcases eleven hj with rfl | rfl | rfl | rfl | rfl | rfl | rfl | rfl | rfl | rfl | rfl <;> rfl)⟩, fun h => ?_⟩, fun _ h => h, fun _ => rfl, rfl⟩
      · clear hW hold hpre haft hG hr' key hcall
        go_simp
      · simp [q19] at h
      · simp at h
      · simp [q28] at h
    | 26, hi, hun, haft =>
      simp only [List.getElem?_toArray, List.getElem?_cons_zero, List.getElem?_cons_succ, Option.some.injEq] at hi
      subst hi
      have e69 : b.tmps[69]?.getD undef = .pointer (some ⟨cb, 0, none⟩) := hW 1 69 (hpre ⟨1, .data⟩ (by simp) rfl) rfl
      refine wp_of_value (w' := wx) (v := .pointer (some ⟨cb, 0, none⟩)) ?_ ⟨_, γ, rfl, hG, fun _ h => h, fun h => (by cases h), rfl⟩
      clear hW hold hpre haft hG hcall
      go_simp
    | 27, hi, hun, haft =>
      simp only [List.getElem?_toArray, List.getElem?_cons_zero, List.getElem?_cons_succ, Option.some.injEq] at hi
      subst hi
      have e92 : b.tmps[92]?.getD undef = .pointer (some ⟨cb, 0, none⟩) := hW 26 92 (hpre ⟨26, .data⟩ (by simp) rfl) rfl
      refine wp_of_value (w' := wx) (v := .pointer (some ⟨cb, 6, none⟩)) ?_ ⟨_, γ, rfl, hG, fun _ h => h, fun h => (by cases h), rfl⟩
      clear hW hold hpre haft hG hcall
      go_simp
    | 28, hi, hun, haft =>
      simp only [List.getElem?_toArray, List.getElem?_cons_zero, List.getElem?_cons_succ, Option.some.injEq] at hi
      subst hi
      have e93 : b.tmps[93]?.getD undef = .pointer (some ⟨cb, 6, none⟩) := hW 27 93 (hpre ⟨27, .data⟩ (by simp) rfl) rfl
      have e89 := hW 22 89 (hpre ⟨22, .data⟩ (by simp) rfl) rfl
      obtain ⟨gs, gv, gw, cs, cv, cw, hγ, e89⟩ := e89
      have q25 : l 25 = true := hpre ⟨25, .chain⟩ (by simp) rfl
      have q19 : l 19 = true := hpre ⟨19, .phase⟩ (by simp) rfl
      obtain ⟨gs', gv', gw', cs', cv', cw', hγ', hr'⟩ := hG.mid ⟨q25, hun⟩
      rw [hγ] at hγ'
      simp at hγ'
      obtain ⟨rfl, rfl, rfl, rfl, rfl, rfl⟩ := hγ'
      have k2 : wx.cell? ⟨cb, 6, none⟩ = some (.slice aW nW cW) := hr'.cell (i := 6) (by omega)
      have f2 := hr'.frozen 6
      have key : ∀ k, k ≠ cb → (wx.setCell ⟨cb, 6, none⟩ (.slice (some ⟨gw, 0, none⟩) sw.length cw)).heap[k]? = wx.heap[k]? := fun k hk => Below.heap_setCell _ _ _ _ hk
      refine wp_of_skip (w' := wx.setCell ⟨cb, 6, none⟩ (.slice (some ⟨gw, 0, none⟩) sw.length cw)) ?_ ⟨_, γ, rfl, ⟨hG.keeps.setCell (fun _ => Or.inl rfl) _, fun h => ?_, fun h => ?_, fun gs gv gw cs cv cw h => (hG.after gs gv gw cs cv cw h).far hr' key, fun h => ?_, fun _ => ⟨gs, gv, gw, cs, cv, cw, hγ, (hr'.set 6 _).congr (fun j hj => by rcases eleven hj with rfl | rfl | rfl | rfl | rfl | rfl | rfl | rfl | rfl | rfl | rfl <;> rfl)⟩⟩, fun _ h => h, fun _ => rfl, rfl⟩
      · clear hW hold hpre haft hG hr' key hcall
        go_simp
      · simp [q19] at h
      · simp at h
      · simp at h
    | _ + 29, hi, _, _ => simp at hi
  · intro b wx l γ hsz' hds' hall hW hold hG
    have hold' : ∀ t, t ∉ ([68, 69, 70, 71, 72, 73, 74, 75, 76, 77, 78, 79, 80, 81, 82, 83, 84, 85, 86, 87, 67, 88, 89, 90, 91, 92, 93] : List Nat) → b.tmps[t]?.getD undef = f.tmps[t]?.getD undef := fun t ht => hold t ht
    clear hold
    obtain ⟨gs, gv, gw, cs, cv, cw, hγ, h1⟩ := hG.shut (hall 28 (by decide))
    exact hend b wx gs gv gw cs cv cw hsz' hds' (fun t ht => hold' t (fun hm => by simp at hm; omega)) h1 (hG.after _ _ _ _ _ _ hγ) hG.keeps
end Go.Proofs.Ybulkbnbu.Kn
