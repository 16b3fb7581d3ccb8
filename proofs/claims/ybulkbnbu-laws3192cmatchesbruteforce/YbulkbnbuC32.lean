/-
  Best (function 7): the region that lays a scaled item.
-/
import Derived.Test.YbulkbnbuOut
namespace Go.Proofs.Ybulkbnbu.Kn
set_option linter.unusedSimpArgs false
set_option linter.unusedVariables false
open Go.ChangeShapes Go.WideShapes Go.ChangeAt Go.RowKit
open Go.Proofs.Ybulkbnbu.Fl
attribute [local go_sem] run_store_float

theorem frame_eq (N : Nat) (l : List (Nat × Value)) : ∀ (f b : Act), f.tmps.size = N → b.tmps.size = N → b.defers = f.defers → (∀ t, t ∉ l.map (·.1) → b.tmps[t]?.getD undef = f.tmps[t]?.getD undef) → (∀ p ∈ l, b.tmps[p.1]?.getD undef = p.2) → (∀ p ∈ l, p.1 < N) → b = l.foldl (fun a p => a.put (some p.1) p.2) f := by
  induction l with
  | nil =>
    intro f b h1 h2 h3 h4 _ _
    obtain ⟨ft, fd⟩ := f
    obtain ⟨bt, bd⟩ := b
    simp only at h1 h2 h3 h4
    subst h3
    congr 1
    apply Array.ext
    · omega
    · intro i hi hj
      have := h4 i (by simp)
      simpa [hi, hj] using this
  | cons p l ih =>
    intro f b h1 h2 h3 h4 h5 h6
    rw [List.foldl_cons]
    have hp := h6 p (by simp)
    refine ih (f.put (some p.1) p.2) b (by simp [Act.put, h1]) h2 h3 (fun t ht => ?_) (fun q hq => h5 q (List.mem_cons_of_mem _ hq)) (fun q hq => h6 q (List.mem_cons_of_mem _ hq))
    by_cases e : t = p.1
    · subst e
      rw [h5 p (by simp)]
      simp [Act.put, h1, hp]
    · rw [h4 t (by simp at ht ⊢; exact ⟨e, ht⟩)]
      simp only [Act.put]
      rw [Array.getElem?_setIfInBounds_ne (Ne.symm e)]

structure GE (w1 w2 : World) (b : Bool) (wx : World) : Prop where
  eq : wx = if b then w2 else w1
theorem GE.cell {w : World} {gs k : Nat} {x y : Value} {b : Bool} {wx : World} (h : GE w.drew ((w.drew.setCell ⟨gs, k * 2, none⟩ x).setCell ⟨gs, k * 2 + 1, none⟩ y) b wx) {a : Addr} {u : Value} (hc : w.cell? a = some u) (hn : a.block ≠ gs) : wx.cell? a = some u := by
  have := h.eq
  subst this
  cases b
  · exact hc
  · show ((w.drew.setCell ⟨gs, k * 2, none⟩ x).setCell ⟨gs, k * 2 + 1, none⟩ y).cell? a = some u
    rw [World.cell?_of_block (w := w) ((Below.heap_setCell _ _ _ _ hn).trans (Below.heap_setCell w.drew _ _ _ hn))]; exact hc

set_option maxRecDepth 100000 in
set_option maxHeartbeats 8000000 in
theorem c32 {Q : Exit → Act → World → Prop} (ib gs n c L k ii : Nat) (si u : Int) (sz : Nat → Int) (vl : Nat → Nat) (f : Act) (w : World) (hsz : f.tmps.size = 222) (hds : f.defers = []) (ht0 : f.tmps[0]?.getD undef = .slice (some ⟨ib, 0, none⟩) n c) (ht13 : f.tmps[13]?.getD undef = .int .i64 u) (ht16 : f.tmps[16]?.getD undef = .slice (some ⟨gs, 0, none⟩) L L) (ht18 : f.tmps[18]?.getD undef = .int .i64 (k : Int)) (ht19 : f.tmps[19]?.getD undef = .int .i64 (ii : Int))
    (hc0 : w.cell? ⟨ib, ii * 2, none⟩ = some (.int .i64 si)) (hc1 : w.cell? ⟨ib, ii * 2 + 1, none⟩ = some (.float .f64 (W (vl k)))) (nib : ib ≠ gs) (hi : ii < n) (hk : k < L) (hu : u ≠ 0) (hdiv : Int.tdiv si u = sz k) (hb1 : 0 ≤ sz k) (hb2 : sz k < 1000) (hr : w.rowIs gs 28 (L * 2) (partF sz vl k))
    (hend : Q .normal ((((((((((((((((f.put (some 99) (.slice (some ⟨gs, 0, none⟩) L L)).put (some 100) (.int .i64 (k : Int))).put (some 101) (.slice (some ⟨ib, 0, none⟩) n c)).put (some 102) (.int .i64 (ii : Int))).put (some 103) (.pointer (some ⟨ib, ii * 2, none⟩))).put (some 104) (.pointer (some ⟨ib, ii * 2, none⟩))).put (some 105) (.int .i64 si)).put (some 106) (.int .i64 u)).put (some 107) (.int .i64 (sz k))).put (some 108) (.slice (some ⟨ib, 0, none⟩) n c)).put (some 109) (.int .i64 (ii : Int))).put (some 110) (.pointer (some ⟨ib, ii * 2, none⟩))).put (some 111) (.pointer (some ⟨ib, ii * 2 + 1, none⟩))).put (some 112) (.float .f64 (W (vl k)))).put (some 113) (.agg #[.int .i64 (sz k), .float .f64 (W (vl k))])).put (some 114) (.pointer (some ⟨gs, k * 2, none⟩))) ((w.drew.setCell ⟨gs, k * 2, none⟩ (.int .i64 (sz k))).setCell ⟨gs, k * 2 + 1, none⟩ (.float .f64 (W (vl k))))) :
    Code.wp Yba.prog ((Yba.f7.body.bind (reg 32)).getD .skip) Q f w := by
  conv => arg 2; whnf
  have lgs := hr.lt
  have g0 : w.cell? ⟨gs, k * 2, none⟩ = some (.int .i64 0) := (hr.cell (i := k * 2) (by omega)).trans (by unfold partF; rw [if_neg (by omega), if_pos (by omega)])
  have g1 : w.cell? ⟨gs, k * 2 + 1, none⟩ = some (.float .f64 0) := (hr.cell (i := k * 2 + 1) (by omega)).trans (by unfold partF; rw [if_neg (by omega), if_neg (by omega)])
  have f0 : w.frozen? ⟨gs, k * 2, none⟩ = false := hr.frozen (k * 2)
  have f1 : w.frozen? ⟨gs, k * 2 + 1, none⟩ = false := hr.frozen (k * 2 + 1)
  clear hr
  refine ops_law (N := 222) f w (by kernel_rfl) hsz hds (fun i' v wx => v = (fun i => match i with
    | 0 => .slice (some ⟨gs, 0, none⟩) L L
    | 1 => .int .i64 (k : Int)
    | 2 => .slice (some ⟨ib, 0, none⟩) n c
    | 3 => .int .i64 (ii : Int)
    | 4 => .pointer (some ⟨ib, ii * 2, none⟩)
    | 5 => .pointer (some ⟨ib, ii * 2, none⟩)
    | 6 => .int .i64 si
    | 7 => .int .i64 u
    | 8 => .int .i64 (sz k)
    | 9 => .slice (some ⟨ib, 0, none⟩) n c
    | 10 => .int .i64 (ii : Int)
    | 11 => .pointer (some ⟨ib, ii * 2, none⟩)
    | 12 => .pointer (some ⟨ib, ii * 2 + 1, none⟩)
    | 13 => .float .f64 (W (vl k))
    | 14 => .agg #[.int .i64 (sz k), .float .f64 (W (vl k))]
    | 15 => .pointer (some ⟨gs, k * 2, none⟩)
    | 16 => undef
    | _ => undef : Nat → Value) i') (fun l wx => GE w.drew ((w.drew.setCell ⟨gs, k * 2, none⟩ (.int .i64 (sz k))).setCell ⟨gs, k * 2 + 1, none⟩ (.float .f64 (W (vl k)))) (l 16) wx) w.heap.size (fun _ _ _ _ _ h => h) ⟨rfl⟩ ?_ ?_
  · intro i' o hi l b wx hun haft hpre hW hold hG
    match i', hi, hun, haft with
    | 0, hi, hun, haft =>
      simp only [List.getElem?_toArray, List.getElem?_cons_zero, List.getElem?_cons_succ, Option.some.injEq] at hi
      subst hi
      have e16 : b.tmps[16]?.getD undef = .slice (some ⟨gs, 0, none⟩) L L := (hold 16 (by decide)).trans ht16
      refine wp_of_value (w' := wx) (v := .slice (some ⟨gs, 0, none⟩) L L) ?_ ⟨_, rfl, hG, Ext.refl _ _, fun h => (by cases h), rfl⟩
      clear hW hold hpre haft hG
      go_simp
    | 1, hi, hun, haft =>
      simp only [List.getElem?_toArray, List.getElem?_cons_zero, List.getElem?_cons_succ, Option.some.injEq] at hi
      subst hi
      have e18 : b.tmps[18]?.getD undef = .int .i64 (k : Int) := (hold 18 (by decide)).trans ht18
      refine wp_of_value (w' := wx) (v := .int .i64 (k : Int)) ?_ ⟨_, rfl, hG, Ext.refl _ _, fun h => (by cases h), rfl⟩
      clear hW hold hpre haft hG
      go_simp
    | 2, hi, hun, haft =>
      simp only [List.getElem?_toArray, List.getElem?_cons_zero, List.getElem?_cons_succ, Option.some.injEq] at hi
      subst hi
      have e0 : b.tmps[0]?.getD undef = .slice (some ⟨ib, 0, none⟩) n c := (hold 0 (by decide)).trans ht0
      refine wp_of_value (w' := wx) (v := .slice (some ⟨ib, 0, none⟩) n c) ?_ ⟨_, rfl, hG, Ext.refl _ _, fun h => (by cases h), rfl⟩
      clear hW hold hpre haft hG
      go_simp
    | 3, hi, hun, haft =>
      simp only [List.getElem?_toArray, List.getElem?_cons_zero, List.getElem?_cons_succ, Option.some.injEq] at hi
      subst hi
      have e19 : b.tmps[19]?.getD undef = .int .i64 (ii : Int) := (hold 19 (by decide)).trans ht19
      refine wp_of_value (w' := wx) (v := .int .i64 (ii : Int)) ?_ ⟨_, rfl, hG, Ext.refl _ _, fun h => (by cases h), rfl⟩
      clear hW hold hpre haft hG
      go_simp
    | 4, hi, hun, haft =>
      simp only [List.getElem?_toArray, List.getElem?_cons_zero, List.getElem?_cons_succ, Option.some.injEq] at hi
      subst hi
      have e101 : b.tmps[101]?.getD undef = .slice (some ⟨ib, 0, none⟩) n c := hW 2 101 (hpre ⟨2, .data⟩ (by simp) rfl) rfl
      have e102 : b.tmps[102]?.getD undef = .int .i64 (ii : Int) := hW 3 102 (hpre ⟨3, .data⟩ (by simp) rfl) rfl
      refine wp_of_value (w' := wx) (v := .pointer (some ⟨ib, ii * 2, none⟩)) ?_ ⟨_, rfl, hG, Ext.refl _ _, fun h => (by cases h), rfl⟩
      clear hW hold hpre haft hG
      go_simp
    | 5, hi, hun, haft =>
      simp only [List.getElem?_toArray, List.getElem?_cons_zero, List.getElem?_cons_succ, Option.some.injEq] at hi
      subst hi
      have e103 : b.tmps[103]?.getD undef = .pointer (some ⟨ib, ii * 2, none⟩) := hW 4 103 (hpre ⟨4, .data⟩ (by simp) rfl) rfl
      refine wp_of_value (w' := wx) (v := .pointer (some ⟨ib, ii * 2, none⟩)) ?_ ⟨_, rfl, hG, Ext.refl _ _, fun h => (by cases h), rfl⟩
      clear hW hold hpre haft hG
      go_simp
    | 6, hi, hun, haft =>
      simp only [List.getElem?_toArray, List.getElem?_cons_zero, List.getElem?_cons_succ, Option.some.injEq] at hi
      subst hi
      have e104 : b.tmps[104]?.getD undef = .pointer (some ⟨ib, ii * 2, none⟩) := hW 5 104 (hpre ⟨5, .data⟩ (by simp) rfl) rfl
      refine wp_of_value (w' := wx) (v := .int .i64 si) ?_ ⟨_, rfl, hG, Ext.refl _ _, fun h => (by cases h), rfl⟩
      have kb := hG.cell hc0 nib
      clear hW hold hpre haft hG
      go_simp
    | 7, hi, hun, haft =>
      simp only [List.getElem?_toArray, List.getElem?_cons_zero, List.getElem?_cons_succ, Option.some.injEq] at hi
      subst hi
      have e13 : b.tmps[13]?.getD undef = .int .i64 u := (hold 13 (by decide)).trans ht13
      refine wp_of_value (w' := wx) (v := .int .i64 u) ?_ ⟨_, rfl, hG, Ext.refl _ _, fun h => (by cases h), rfl⟩
      clear hW hold hpre haft hG
      go_simp
    | 8, hi, hun, haft =>
      simp only [List.getElem?_toArray, List.getElem?_cons_zero, List.getElem?_cons_succ, Option.some.injEq] at hi
      subst hi
      have e105 : b.tmps[105]?.getD undef = .int .i64 si := hW 6 105 (hpre ⟨6, .data⟩ (by simp) rfl) rfl
      have e106 : b.tmps[106]?.getD undef = .int .i64 u := hW 7 106 (hpre ⟨7, .data⟩ (by simp) rfl) rfl
      refine wp_of_value (w' := wx) (v := .int .i64 (sz k)) ?_ ⟨_, rfl, hG, Ext.refl _ _, fun h => (by cases h), rfl⟩
      clear hW hold hpre haft hG
      go_simp
      rw [IntKind.wrap_i64]; omega
    | 9, hi, hun, haft =>
      simp only [List.getElem?_toArray, List.getElem?_cons_zero, List.getElem?_cons_succ, Option.some.injEq] at hi
      subst hi
      have e0 : b.tmps[0]?.getD undef = .slice (some ⟨ib, 0, none⟩) n c := (hold 0 (by decide)).trans ht0
      refine wp_of_value (w' := wx) (v := .slice (some ⟨ib, 0, none⟩) n c) ?_ ⟨_, rfl, hG, Ext.refl _ _, fun h => (by cases h), rfl⟩
      clear hW hold hpre haft hG
      go_simp
    | 10, hi, hun, haft =>
      simp only [List.getElem?_toArray, List.getElem?_cons_zero, List.getElem?_cons_succ, Option.some.injEq] at hi
      subst hi
      have e19 : b.tmps[19]?.getD undef = .int .i64 (ii : Int) := (hold 19 (by decide)).trans ht19
      refine wp_of_value (w' := wx) (v := .int .i64 (ii : Int)) ?_ ⟨_, rfl, hG, Ext.refl _ _, fun h => (by cases h), rfl⟩
      clear hW hold hpre haft hG
      go_simp
    | 11, hi, hun, haft =>
      simp only [List.getElem?_toArray, List.getElem?_cons_zero, List.getElem?_cons_succ, Option.some.injEq] at hi
      subst hi
      have e108 : b.tmps[108]?.getD undef = .slice (some ⟨ib, 0, none⟩) n c := hW 9 108 (hpre ⟨9, .data⟩ (by simp) rfl) rfl
      have e109 : b.tmps[109]?.getD undef = .int .i64 (ii : Int) := hW 10 109 (hpre ⟨10, .data⟩ (by simp) rfl) rfl
      refine wp_of_value (w' := wx) (v := .pointer (some ⟨ib, ii * 2, none⟩)) ?_ ⟨_, rfl, hG, Ext.refl _ _, fun h => (by cases h), rfl⟩
      clear hW hold hpre haft hG
      go_simp
    | 12, hi, hun, haft =>
      simp only [List.getElem?_toArray, List.getElem?_cons_zero, List.getElem?_cons_succ, Option.some.injEq] at hi
      subst hi
      have e110 : b.tmps[110]?.getD undef = .pointer (some ⟨ib, ii * 2, none⟩) := hW 11 110 (hpre ⟨11, .data⟩ (by simp) rfl) rfl
      refine wp_of_value (w' := wx) (v := .pointer (some ⟨ib, ii * 2 + 1, none⟩)) ?_ ⟨_, rfl, hG, Ext.refl _ _, fun h => (by cases h), rfl⟩
      clear hW hold hpre haft hG
      go_simp
    | 13, hi, hun, haft =>
      simp only [List.getElem?_toArray, List.getElem?_cons_zero, List.getElem?_cons_succ, Option.some.injEq] at hi
      subst hi
      have e111 : b.tmps[111]?.getD undef = .pointer (some ⟨ib, ii * 2 + 1, none⟩) := hW 12 111 (hpre ⟨12, .data⟩ (by simp) rfl) rfl
      refine wp_of_value (w' := wx) (v := .float .f64 (W (vl k))) ?_ ⟨_, rfl, hG, Ext.refl _ _, fun h => (by cases h), rfl⟩
      have kb := hG.cell hc1 nib
      clear hW hold hpre haft hG
      go_simp
    | 14, hi, hun, haft =>
      simp only [List.getElem?_toArray, List.getElem?_cons_zero, List.getElem?_cons_succ, Option.some.injEq] at hi
      subst hi
      have e107 : b.tmps[107]?.getD undef = .int .i64 (sz k) := hW 8 107 (hpre ⟨8, .data⟩ (by simp) rfl) rfl
      have e112 : b.tmps[112]?.getD undef = .float .f64 (W (vl k)) := hW 13 112 (hpre ⟨13, .data⟩ (by simp) rfl) rfl
      refine wp_of_value (w' := wx) (v := .agg #[.int .i64 (sz k), .float .f64 (W (vl k))]) ?_ ⟨_, rfl, hG, Ext.refl _ _, fun h => (by cases h), rfl⟩
      clear hW hold hpre haft hG
      go_simp
    | 15, hi, hun, haft =>
      simp only [List.getElem?_toArray, List.getElem?_cons_zero, List.getElem?_cons_succ, Option.some.injEq] at hi
      subst hi
      have e99 : b.tmps[99]?.getD undef = .slice (some ⟨gs, 0, none⟩) L L := hW 0 99 (hpre ⟨0, .data⟩ (by simp) rfl) rfl
      have e100 : b.tmps[100]?.getD undef = .int .i64 (k : Int) := hW 1 100 (hpre ⟨1, .data⟩ (by simp) rfl) rfl
      refine wp_of_value (w' := wx) (v := .pointer (some ⟨gs, k * 2, none⟩)) ?_ ⟨_, rfl, hG, Ext.refl _ _, fun h => (by cases h), rfl⟩
      clear hW hold hpre haft hG
      go_simp
    | 16, hi, hun, haft =>
      simp only [List.getElem?_toArray, List.getElem?_cons_zero, List.getElem?_cons_succ, Option.some.injEq] at hi
      subst hi
      have e114 : b.tmps[114]?.getD undef = .pointer (some ⟨gs, k * 2, none⟩) := hW 15 114 (hpre ⟨15, .data⟩ (by simp) rfl) rfl
      have e113 : b.tmps[113]?.getD undef = .agg #[.int .i64 (sz k), .float .f64 (W (vl k))] := hW 14 113 (hpre ⟨14, .data⟩ (by simp) rfl) rfl
      have hwx : wx = w.drew := by have h := hG.eq; rw [hun] at h; exact h
      subst hwx
      refine wp_of_skip (w' := ((w.drew.setCell ⟨gs, k * 2, none⟩ (.int .i64 (sz k))).setCell ⟨gs, k * 2 + 1, none⟩ (.float .f64 (W (vl k))))) ?_ ⟨_, rfl, ⟨rfl⟩, ⟨by simp, fun j h1 _ => (Below.heap_setCell _ _ _ _ (by show j ≠ gs; omega)).trans (Below.heap_setCell _ _ _ _ (by show j ≠ gs; omega))⟩, fun _ => rfl, rfl⟩
      clear hW hold hpre haft hG
      go_simp
    | _ + 17, hi, _, _ => simp at hi
  · intro b wx l hsz' hds' hall hW hold hG
    have hwx := hG.eq
    rw [hall 16 (by decide)] at hwx
    have hf := frame_eq 222 [(99, .slice (some ⟨gs, 0, none⟩) L L), (100, .int .i64 (k : Int)), (101, .slice (some ⟨ib, 0, none⟩) n c), (102, .int .i64 (ii : Int)), (103, .pointer (some ⟨ib, ii * 2, none⟩)), (104, .pointer (some ⟨ib, ii * 2, none⟩)), (105, .int .i64 si), (106, .int .i64 u), (107, .int .i64 (sz k)), (108, .slice (some ⟨ib, 0, none⟩) n c), (109, .int .i64 (ii : Int)), (110, .pointer (some ⟨ib, ii * 2, none⟩)), (111, .pointer (some ⟨ib, ii * 2 + 1, none⟩)), (112, .float .f64 (W (vl k))), (113, .agg #[.int .i64 (sz k), .float .f64 (W (vl k))]), (114, .pointer (some ⟨gs, k * 2, none⟩))] f b hsz hsz' (by rw [hds', hds]) (fun t ht => hold t ht) (fun p hp => by
      simp only [List.mem_cons, List.not_mem_nil, or_false] at hp
      rcases hp with rfl | rfl | rfl | rfl | rfl | rfl | rfl | rfl | rfl | rfl | rfl | rfl | rfl | rfl | rfl | rfl
      · exact hW 0 99 rfl
      · exact hW 1 100 rfl
      · exact hW 2 101 rfl
      · exact hW 3 102 rfl
      · exact hW 4 103 rfl
      · exact hW 5 104 rfl
      · exact hW 6 105 rfl
      · exact hW 7 106 rfl
      · exact hW 8 107 rfl
      · exact hW 9 108 rfl
      · exact hW 10 109 rfl
      · exact hW 11 110 rfl
      · exact hW 12 111 rfl
      · exact hW 13 112 rfl
      · exact hW 14 113 rfl
      · exact hW 15 114 rfl
      ) (fun p hp => by
      simp only [List.mem_cons, List.not_mem_nil, or_false] at hp
      rcases hp with rfl | rfl | rfl | rfl | rfl | rfl | rfl | rfl | rfl | rfl | rfl | rfl | rfl | rfl | rfl | rfl <;> simp)
    simp only [List.foldl_cons, List.foldl_nil] at hf
    rw [hf, hwx]
    exact hend
end Go.Proofs.Ybulkbnbu.Kn
