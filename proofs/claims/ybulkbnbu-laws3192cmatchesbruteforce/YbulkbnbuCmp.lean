/-
  The order of the contenders: cmp.Compare at floats, cmp.Or, the closure (functions 27, 25, 24).
-/
import Derived.Test.YbulkbnbuSm
import Derived.Test.YbulkbnbuShelfB
namespace Go.Proofs.Ybulkbnbu.Kn
set_option linter.unusedSimpArgs false
set_option linter.unusedVariables false
open Go.ChangeShapes Go.WideShapes Go.ChangeAt Go.RowKit
open Go.Proofs.Ybulkbnbu.Fl

theorem nan_any (a : Nat) (w : World) (ha : a < 2 ^ 53) : Calls Yba.prog 40 #[.float .f64 (W a)] w fun e w' => e = .returned (.bool false) ∧ w' = w := by
  have ho := ord_eq a ha
  go_enter Yba.func40, Yba.ntmps40
  go_wp2
  go_ret
  exact ⟨rfl, rfl⟩
set_option maxRecDepth 100000 in
theorem cmpF (a b : Nat) (w : World) (ha : a < 2 ^ 53) (hb : b < 2 ^ 53) : Calls Yba.prog 27 #[.float .f64 (W a), .float .f64 (W b)] w fun e w' => e = .returned (.int .i64 (Lib.compareInt (a : Int) (b : Int))) ∧ w' = w := by
  have hA := fun w => nan_any a w ha
  have hB := fun w => nan_any b w hb
  rcases Nat.lt_trichotomy a b with h | h | h
  · have ho := ord_lt a b h hb
    have hc : Lib.compareInt (a : Int) (b : Int) = -1 := by unfold Lib.compareInt; rw [if_pos (by omega)]
    rw [hc]
    go_enter Yba.func27, Yba.ntmps27
    go_wp2_with (go_at_call 40; (first | (refine (hA _).mono ?_) | (refine (hB _).mono ?_)); rintro e w' ⟨rfl, rfl⟩)
    go_ret
    exact ⟨rfl, rfl⟩
  · subst h
    have ho := ord_eq a hb
    have hc : Lib.compareInt (a : Int) (a : Int) = 0 := by unfold Lib.compareInt; rw [if_neg (by omega), if_neg (by omega)]
    rw [hc]
    go_enter Yba.func27, Yba.ntmps27
    go_wp2_with (go_at_call 40; (first | (refine (hA _).mono ?_) | (refine (hB _).mono ?_)); rintro e w' ⟨rfl, rfl⟩)
    go_ret
    exact ⟨rfl, rfl⟩
  · have ho := ord_gt a b h ha
    have hc : Lib.compareInt (a : Int) (b : Int) = 1 := by unfold Lib.compareInt; rw [if_neg (by omega), if_pos (by omega)]
    rw [hc]
    go_enter Yba.func27, Yba.ntmps27
    go_wp2_with (go_at_call 40; (first | (refine (hA _).mono ?_) | (refine (hB _).mono ?_)); rintro e w' ⟨rfl, rfl⟩)
    go_ret
    exact ⟨rfl, rfl⟩

def orI (a b c : Int) : Int := if a ≠ 0 then a else if b ≠ 0 then b else c
def cf3 (sx sy : Int) (vx vy x y : Nat) : Int := orI (Lib.compareInt sx sy) (Lib.compareInt (vy : Int) (vx : Int)) (Lib.compareInt (x : Int) (y : Int))
set_option maxRecDepth 100000 in
theorem or_any (g : Nat) (a b c : Int) (w : World) (ha : w.cell? ⟨g, 0, none⟩ = some (.int .i64 a)) (hb : w.cell? ⟨g, 1, none⟩ = some (.int .i64 b)) (hc : w.cell? ⟨g, 2, none⟩ = some (.int .i64 c)) :
    Calls Yba.prog 25 #[.slice (some ⟨g, 0, none⟩) 3 3] w fun e w' => e = .returned (.int .i64 (orI a b c)) ∧ w' = w := by
  go_enter Yba.func25, Yba.ntmps25
  go_wp2
  by_cases h1 : a = 0
  · subst h1
    by_cases h2 : b = 0
    · subst h2
      by_cases h3 : c = 0
      · subst h3
        refine wp_loop_rounds 4 ?_
        rw [rounds_succ]; go_wp2
        rw [rounds_succ]; go_wp2
        rw [rounds_succ]; go_wp2
        rw [rounds_succ]; go_wp2
        go_ret
        exact ⟨rfl, rfl⟩
      · refine wp_loop_rounds 3 ?_
        rw [rounds_succ]; go_wp2
        rw [rounds_succ]; go_wp2
        rw [rounds_succ]; go_wp2
        go_ret
        exact ⟨by simp [orI], rfl⟩
    · refine wp_loop_rounds 2 ?_
      rw [rounds_succ]; go_wp2
      rw [rounds_succ]; go_wp2
      go_ret
      exact ⟨by simp [orI, h2], rfl⟩
  · refine wp_loop_rounds 1 ?_
    rw [rounds_succ]; go_wp2
    go_ret
    exact ⟨by simp [orI, h1], rfl⟩

structure GC (w : World) (o : Obj) (b : Bool) (wx : World) : Prop where
  eq : wx = if b then w.drew.alloc o else w.drew
theorem GC.cell {w wx : World} {o : Obj} {b : Bool} (h : GC w o b wx) {a : Addr} {u : Value} (hc : w.cell? a = some u) : wx.cell? a = some u := by
  have := h.eq
  subst this
  have hl := World.block_lt_of_cell? w _ hc
  cases b
  · exact hc
  · show (w.drew.alloc o).cell? a = some u
    rw [World.cell?_of_block (w := w) (Below.heap_alloc w.drew _ _ hl)]; exact hc

set_option maxRecDepth 100000 in
set_option maxHeartbeats 8000000 in
theorem k24 {Q : Exit → Act → World → Prop} (bx ib n c x y vx vy : Nat) (sx sy : Int) (f : Act) (w : World) (hsz : f.tmps.size = 33) (hds : f.defers = []) (ht0 : f.tmps[0]?.getD undef = .int .i64 (x : Int)) (ht1 : f.tmps[1]?.getD undef = .int .i64 (y : Int)) (ht2 : f.tmps[2]?.getD undef = .pointer (some ⟨bx, 0, none⟩)) (hbx : w.cell? ⟨bx, 0, none⟩ = some (.slice (some ⟨ib, 0, none⟩) n c)) (hx0 : w.cell? ⟨ib, x * 2, none⟩ = some (.int .i64 sx)) (hx1 : w.cell? ⟨ib, x * 2 + 1, none⟩ = some (.float .f64 (W vx))) (hy0 : w.cell? ⟨ib, y * 2, none⟩ = some (.int .i64 sy)) (hy1 : w.cell? ⟨ib, y * 2 + 1, none⟩ = some (.float .f64 (W vy))) (hx : x < n) (hy : y < n) (hvx : vx < 1000) (hvy : vy < 1000)
    (hend : ∀ f', f'.tmps.size = 33 → f'.defers = [] → f'.tmps[5]?.getD undef = .int .i64 (cf3 sx sy vx vy x y) → Q .normal f' (w.drew.alloc (.cells #[.int .i64 (Lib.compareInt sx sy), .int .i64 (Lib.compareInt (vy : Int) (vx : Int)), .int .i64 (Lib.compareInt (x : Int) (y : Int))] 3))) :
    Code.wp Yba.prog ((Yba.f24.body.bind (reg 1)).getD .skip) Q f w := by
  conv => arg 2; whnf
  refine ops_law (N := 33) f w (by kernel_rfl) hsz hds (fun i v wx => v = (fun i => match i with
    | 0 => .slice (some ⟨ib, 0, none⟩) n c
    | 1 => .int .i64 (x : Int)
    | 2 => .pointer (some ⟨ib, x * 2, none⟩)
    | 3 => .pointer (some ⟨ib, x * 2, none⟩)
    | 4 => .int .i64 sx
    | 5 => .slice (some ⟨ib, 0, none⟩) n c
    | 6 => .int .i64 (y : Int)
    | 7 => .pointer (some ⟨ib, y * 2, none⟩)
    | 8 => .pointer (some ⟨ib, y * 2, none⟩)
    | 9 => .int .i64 sy
    | 10 => .int .i64 (Lib.compareInt sx sy)
    | 11 => .slice (some ⟨ib, 0, none⟩) n c
    | 12 => .int .i64 (y : Int)
    | 13 => .pointer (some ⟨ib, y * 2, none⟩)
    | 14 => .pointer (some ⟨ib, y * 2 + 1, none⟩)
    | 15 => .float .f64 (W vy)
    | 16 => .slice (some ⟨ib, 0, none⟩) n c
    | 17 => .int .i64 (x : Int)
    | 18 => .pointer (some ⟨ib, x * 2, none⟩)
    | 19 => .pointer (some ⟨ib, x * 2 + 1, none⟩)
    | 20 => .float .f64 (W vx)
    | 21 => .int .i64 (Lib.compareInt (vy : Int) (vx : Int))
    | 22 => .int .i64 (x : Int)
    | 23 => .int .i64 (y : Int)
    | 24 => .int .i64 (Lib.compareInt (x : Int) (y : Int))
    | 25 => .slice (some ⟨w.heap.size, 0, none⟩) 3 3
    | 26 => .int .i64 (cf3 sx sy vx vy x y)
    | 27 => .int .i64 (cf3 sx sy vx vy x y)
    | _ => undef : Nat → Value) i) (fun l wx => GC w (.cells #[.int .i64 (Lib.compareInt sx sy), .int .i64 (Lib.compareInt (vy : Int) (vx : Int)), .int .i64 (Lib.compareInt (x : Int) (y : Int))] 3) (l 25) wx) w.heap.size (fun _ _ _ _ _ h => h) ⟨rfl⟩ ?_ ?_
  · intro i o hi l b wx hun haft hpre hW hold hG
    match i, hi, hun, haft with
    | 0, hi, hun, haft =>
      simp only [List.getElem?_toArray, List.getElem?_cons_zero, List.getElem?_cons_succ, Option.some.injEq] at hi
      subst hi
      have e2 : b.tmps[2]?.getD undef = .pointer (some ⟨bx, 0, none⟩) := (hold 2 (by decide)).trans ht2
      refine wp_of_value (w' := wx) (v := .slice (some ⟨ib, 0, none⟩) n c) ?_ ⟨_, rfl, hG, Ext.refl _ _, fun h => (by cases h), rfl⟩
      have kb := hG.cell hbx
      clear hW hold hpre haft hG
      go_simp
    | 1, hi, hun, haft =>
      simp only [List.getElem?_toArray, List.getElem?_cons_zero, List.getElem?_cons_succ, Option.some.injEq] at hi
      subst hi
      have e0 : b.tmps[0]?.getD undef = .int .i64 (x : Int) := (hold 0 (by decide)).trans ht0
      refine wp_of_value (w' := wx) (v := .int .i64 (x : Int)) ?_ ⟨_, rfl, hG, Ext.refl _ _, fun h => (by cases h), rfl⟩
      clear hW hold hpre haft hG
      go_simp
    | 2, hi, hun, haft =>
      simp only [List.getElem?_toArray, List.getElem?_cons_zero, List.getElem?_cons_succ, Option.some.injEq] at hi
      subst hi
      have e6 : b.tmps[6]?.getD undef = .slice (some ⟨ib, 0, none⟩) n c := hW 0 6 (hpre ⟨0, .data⟩ (by simp) rfl) rfl
      have e7 : b.tmps[7]?.getD undef = .int .i64 (x : Int) := hW 1 7 (hpre ⟨1, .data⟩ (by simp) rfl) rfl
      refine wp_of_value (w' := wx) (v := .pointer (some ⟨ib, x * 2, none⟩)) ?_ ⟨_, rfl, hG, Ext.refl _ _, fun h => (by cases h), rfl⟩
      clear hW hold hpre haft hG
      go_simp
    | 3, hi, hun, haft =>
      simp only [List.getElem?_toArray, List.getElem?_cons_zero, List.getElem?_cons_succ, Option.some.injEq] at hi
      subst hi
      have e8 : b.tmps[8]?.getD undef = .pointer (some ⟨ib, x * 2, none⟩) := hW 2 8 (hpre ⟨2, .data⟩ (by simp) rfl) rfl
      refine wp_of_value (w' := wx) (v := .pointer (some ⟨ib, x * 2, none⟩)) ?_ ⟨_, rfl, hG, Ext.refl _ _, fun h => (by cases h), rfl⟩
      clear hW hold hpre haft hG
      go_simp
    | 4, hi, hun, haft =>
      simp only [List.getElem?_toArray, List.getElem?_cons_zero, List.getElem?_cons_succ, Option.some.injEq] at hi
      subst hi
      have e9 : b.tmps[9]?.getD undef = .pointer (some ⟨ib, x * 2, none⟩) := hW 3 9 (hpre ⟨3, .data⟩ (by simp) rfl) rfl
      refine wp_of_value (w' := wx) (v := .int .i64 sx) ?_ ⟨_, rfl, hG, Ext.refl _ _, fun h => (by cases h), rfl⟩
      have kb := hG.cell hx0
      clear hW hold hpre haft hG
      go_simp
    | 5, hi, hun, haft =>
      simp only [List.getElem?_toArray, List.getElem?_cons_zero, List.getElem?_cons_succ, Option.some.injEq] at hi
      subst hi
      have e2 : b.tmps[2]?.getD undef = .pointer (some ⟨bx, 0, none⟩) := (hold 2 (by decide)).trans ht2
      refine wp_of_value (w' := wx) (v := .slice (some ⟨ib, 0, none⟩) n c) ?_ ⟨_, rfl, hG, Ext.refl _ _, fun h => (by cases h), rfl⟩
      have kb := hG.cell hbx
      clear hW hold hpre haft hG
      go_simp
    | 6, hi, hun, haft =>
      simp only [List.getElem?_toArray, List.getElem?_cons_zero, List.getElem?_cons_succ, Option.some.injEq] at hi
      subst hi
      have e1 : b.tmps[1]?.getD undef = .int .i64 (y : Int) := (hold 1 (by decide)).trans ht1
      refine wp_of_value (w' := wx) (v := .int .i64 (y : Int)) ?_ ⟨_, rfl, hG, Ext.refl _ _, fun h => (by cases h), rfl⟩
      clear hW hold hpre haft hG
      go_simp
    | 7, hi, hun, haft =>
      simp only [List.getElem?_toArray, List.getElem?_cons_zero, List.getElem?_cons_succ, Option.some.injEq] at hi
      subst hi
      have e11 : b.tmps[11]?.getD undef = .slice (some ⟨ib, 0, none⟩) n c := hW 5 11 (hpre ⟨5, .data⟩ (by simp) rfl) rfl
      have e12 : b.tmps[12]?.getD undef = .int .i64 (y : Int) := hW 6 12 (hpre ⟨6, .data⟩ (by simp) rfl) rfl
      refine wp_of_value (w' := wx) (v := .pointer (some ⟨ib, y * 2, none⟩)) ?_ ⟨_, rfl, hG, Ext.refl _ _, fun h => (by cases h), rfl⟩
      clear hW hold hpre haft hG
      go_simp
    | 8, hi, hun, haft =>
      simp only [List.getElem?_toArray, List.getElem?_cons_zero, List.getElem?_cons_succ, Option.some.injEq] at hi
      subst hi
      have e13 : b.tmps[13]?.getD undef = .pointer (some ⟨ib, y * 2, none⟩) := hW 7 13 (hpre ⟨7, .data⟩ (by simp) rfl) rfl
      refine wp_of_value (w' := wx) (v := .pointer (some ⟨ib, y * 2, none⟩)) ?_ ⟨_, rfl, hG, Ext.refl _ _, fun h => (by cases h), rfl⟩
      clear hW hold hpre haft hG
      go_simp
    | 9, hi, hun, haft =>
      simp only [List.getElem?_toArray, List.getElem?_cons_zero, List.getElem?_cons_succ, Option.some.injEq] at hi
      subst hi
      have e14 : b.tmps[14]?.getD undef = .pointer (some ⟨ib, y * 2, none⟩) := hW 8 14 (hpre ⟨8, .data⟩ (by simp) rfl) rfl
      refine wp_of_value (w' := wx) (v := .int .i64 sy) ?_ ⟨_, rfl, hG, Ext.refl _ _, fun h => (by cases h), rfl⟩
      have kb := hG.cell hy0
      clear hW hold hpre haft hG
      go_simp
    | 10, hi, hun, haft =>
      simp only [List.getElem?_toArray, List.getElem?_cons_zero, List.getElem?_cons_succ, Option.some.injEq] at hi
      subst hi
      have e10 : b.tmps[10]?.getD undef = .int .i64 sx := hW 4 10 (hpre ⟨4, .data⟩ (by simp) rfl) rfl
      have e15 : b.tmps[15]?.getD undef = .int .i64 sy := hW 9 15 (hpre ⟨9, .data⟩ (by simp) rfl) rfl
      refine wp_of_call (w1 := wx) (f := 26) (args := #[.int .i64 sx, .int .i64 sy]) ?_ ?_
      · clear hW hold hpre haft hG
        go_simp
      · refine (Yba.cmp_Compare_int sx sy wx).mono ?_
        rintro ee w' ⟨rfl, rfl⟩
        exact ⟨_, rfl, _, rfl, hG, Ext.refl _ _, fun h => (by cases h), rfl⟩
    | 11, hi, hun, haft =>
      simp only [List.getElem?_toArray, List.getElem?_cons_zero, List.getElem?_cons_succ, Option.some.injEq] at hi
      subst hi
      have e2 : b.tmps[2]?.getD undef = .pointer (some ⟨bx, 0, none⟩) := (hold 2 (by decide)).trans ht2
      refine wp_of_value (w' := wx) (v := .slice (some ⟨ib, 0, none⟩) n c) ?_ ⟨_, rfl, hG, Ext.refl _ _, fun h => (by cases h), rfl⟩
      have kb := hG.cell hbx
      clear hW hold hpre haft hG
      go_simp
    | 12, hi, hun, haft =>
      simp only [List.getElem?_toArray, List.getElem?_cons_zero, List.getElem?_cons_succ, Option.some.injEq] at hi
      subst hi
      have e1 : b.tmps[1]?.getD undef = .int .i64 (y : Int) := (hold 1 (by decide)).trans ht1
      refine wp_of_value (w' := wx) (v := .int .i64 (y : Int)) ?_ ⟨_, rfl, hG, Ext.refl _ _, fun h => (by cases h), rfl⟩
      clear hW hold hpre haft hG
      go_simp
    | 13, hi, hun, haft =>
      simp only [List.getElem?_toArray, List.getElem?_cons_zero, List.getElem?_cons_succ, Option.some.injEq] at hi
      subst hi
      have e17 : b.tmps[17]?.getD undef = .slice (some ⟨ib, 0, none⟩) n c := hW 11 17 (hpre ⟨11, .data⟩ (by simp) rfl) rfl
      have e18 : b.tmps[18]?.getD undef = .int .i64 (y : Int) := hW 12 18 (hpre ⟨12, .data⟩ (by simp) rfl) rfl
      refine wp_of_value (w' := wx) (v := .pointer (some ⟨ib, y * 2, none⟩)) ?_ ⟨_, rfl, hG, Ext.refl _ _, fun h => (by cases h), rfl⟩
      clear hW hold hpre haft hG
      go_simp
    | 14, hi, hun, haft =>
      simp only [List.getElem?_toArray, List.getElem?_cons_zero, List.getElem?_cons_succ, Option.some.injEq] at hi
      subst hi
      have e19 : b.tmps[19]?.getD undef = .pointer (some ⟨ib, y * 2, none⟩) := hW 13 19 (hpre ⟨13, .data⟩ (by simp) rfl) rfl
      refine wp_of_value (w' := wx) (v := .pointer (some ⟨ib, y * 2 + 1, none⟩)) ?_ ⟨_, rfl, hG, Ext.refl _ _, fun h => (by cases h), rfl⟩
      clear hW hold hpre haft hG
      go_simp
    | 15, hi, hun, haft =>
      simp only [List.getElem?_toArray, List.getElem?_cons_zero, List.getElem?_cons_succ, Option.some.injEq] at hi
      subst hi
      have e20 : b.tmps[20]?.getD undef = .pointer (some ⟨ib, y * 2 + 1, none⟩) := hW 14 20 (hpre ⟨14, .data⟩ (by simp) rfl) rfl
      refine wp_of_value (w' := wx) (v := .float .f64 (W vy)) ?_ ⟨_, rfl, hG, Ext.refl _ _, fun h => (by cases h), rfl⟩
      have kb := hG.cell hy1
      clear hW hold hpre haft hG
      go_simp
    | 16, hi, hun, haft =>
      simp only [List.getElem?_toArray, List.getElem?_cons_zero, List.getElem?_cons_succ, Option.some.injEq] at hi
      subst hi
      have e2 : b.tmps[2]?.getD undef = .pointer (some ⟨bx, 0, none⟩) := (hold 2 (by decide)).trans ht2
      refine wp_of_value (w' := wx) (v := .slice (some ⟨ib, 0, none⟩) n c) ?_ ⟨_, rfl, hG, Ext.refl _ _, fun h => (by cases h), rfl⟩
      have kb := hG.cell hbx
      clear hW hold hpre haft hG
      go_simp
    | 17, hi, hun, haft =>
      simp only [List.getElem?_toArray, List.getElem?_cons_zero, List.getElem?_cons_succ, Option.some.injEq] at hi
      subst hi
      have e0 : b.tmps[0]?.getD undef = .int .i64 (x : Int) := (hold 0 (by decide)).trans ht0
      refine wp_of_value (w' := wx) (v := .int .i64 (x : Int)) ?_ ⟨_, rfl, hG, Ext.refl _ _, fun h => (by cases h), rfl⟩
      clear hW hold hpre haft hG
      go_simp
    | 18, hi, hun, haft =>
      simp only [List.getElem?_toArray, List.getElem?_cons_zero, List.getElem?_cons_succ, Option.some.injEq] at hi
      subst hi
      have e22 : b.tmps[22]?.getD undef = .slice (some ⟨ib, 0, none⟩) n c := hW 16 22 (hpre ⟨16, .data⟩ (by simp) rfl) rfl
      have e23 : b.tmps[23]?.getD undef = .int .i64 (x : Int) := hW 17 23 (hpre ⟨17, .data⟩ (by simp) rfl) rfl
      refine wp_of_value (w' := wx) (v := .pointer (some ⟨ib, x * 2, none⟩)) ?_ ⟨_, rfl, hG, Ext.refl _ _, fun h => (by cases h), rfl⟩
      clear hW hold hpre haft hG
      go_simp
    | 19, hi, hun, haft =>
      simp only [List.getElem?_toArray, List.getElem?_cons_zero, List.getElem?_cons_succ, Option.some.injEq] at hi
      subst hi
      have e24 : b.tmps[24]?.getD undef = .pointer (some ⟨ib, x * 2, none⟩) := hW 18 24 (hpre ⟨18, .data⟩ (by simp) rfl) rfl
      refine wp_of_value (w' := wx) (v := .pointer (some ⟨ib, x * 2 + 1, none⟩)) ?_ ⟨_, rfl, hG, Ext.refl _ _, fun h => (by cases h), rfl⟩
      clear hW hold hpre haft hG
      go_simp
    | 20, hi, hun, haft =>
      simp only [List.getElem?_toArray, List.getElem?_cons_zero, List.getElem?_cons_succ, Option.some.injEq] at hi
      subst hi
      have e25 : b.tmps[25]?.getD undef = .pointer (some ⟨ib, x * 2 + 1, none⟩) := hW 19 25 (hpre ⟨19, .data⟩ (by simp) rfl) rfl
      refine wp_of_value (w' := wx) (v := .float .f64 (W vx)) ?_ ⟨_, rfl, hG, Ext.refl _ _, fun h => (by cases h), rfl⟩
      have kb := hG.cell hx1
      clear hW hold hpre haft hG
      go_simp
    | 21, hi, hun, haft =>
      simp only [List.getElem?_toArray, List.getElem?_cons_zero, List.getElem?_cons_succ, Option.some.injEq] at hi
      subst hi
      have e21 : b.tmps[21]?.getD undef = .float .f64 (W vy) := hW 15 21 (hpre ⟨15, .data⟩ (by simp) rfl) rfl
      have e26 : b.tmps[26]?.getD undef = .float .f64 (W vx) := hW 20 26 (hpre ⟨20, .data⟩ (by simp) rfl) rfl
      refine wp_of_call (w1 := wx) (f := 27) (args := #[.float .f64 (W vy), .float .f64 (W vx)]) ?_ ?_
      · clear hW hold hpre haft hG
        go_simp
      · refine (cmpF vy vx wx (by omega) (by omega)).mono ?_
        rintro ee w' ⟨rfl, rfl⟩
        exact ⟨_, rfl, _, rfl, hG, Ext.refl _ _, fun h => (by cases h), rfl⟩
    | 22, hi, hun, haft =>
      simp only [List.getElem?_toArray, List.getElem?_cons_zero, List.getElem?_cons_succ, Option.some.injEq] at hi
      subst hi
      have e0 : b.tmps[0]?.getD undef = .int .i64 (x : Int) := (hold 0 (by decide)).trans ht0
      refine wp_of_value (w' := wx) (v := .int .i64 (x : Int)) ?_ ⟨_, rfl, hG, Ext.refl _ _, fun h => (by cases h), rfl⟩
      clear hW hold hpre haft hG
      go_simp
    | 23, hi, hun, haft =>
      simp only [List.getElem?_toArray, List.getElem?_cons_zero, List.getElem?_cons_succ, Option.some.injEq] at hi
      subst hi
      have e1 : b.tmps[1]?.getD undef = .int .i64 (y : Int) := (hold 1 (by decide)).trans ht1
      refine wp_of_value (w' := wx) (v := .int .i64 (y : Int)) ?_ ⟨_, rfl, hG, Ext.refl _ _, fun h => (by cases h), rfl⟩
      clear hW hold hpre haft hG
      go_simp
    | 24, hi, hun, haft =>
      simp only [List.getElem?_toArray, List.getElem?_cons_zero, List.getElem?_cons_succ, Option.some.injEq] at hi
      subst hi
      have e28 : b.tmps[28]?.getD undef = .int .i64 (x : Int) := hW 22 28 (hpre ⟨22, .data⟩ (by simp) rfl) rfl
      have e29 : b.tmps[29]?.getD undef = .int .i64 (y : Int) := hW 23 29 (hpre ⟨23, .data⟩ (by simp) rfl) rfl
      refine wp_of_call (w1 := wx) (f := 26) (args := #[.int .i64 (x : Int), .int .i64 (y : Int)]) ?_ ?_
      · clear hW hold hpre haft hG
        go_simp
      · refine (Yba.cmp_Compare_int (x : Int) (y : Int) wx).mono ?_
        rintro ee w' ⟨rfl, rfl⟩
        exact ⟨_, rfl, _, rfl, hG, Ext.refl _ _, fun h => (by cases h), rfl⟩
    | 25, hi, hun, haft =>
      simp only [List.getElem?_toArray, List.getElem?_cons_zero, List.getElem?_cons_succ, Option.some.injEq] at hi
      subst hi
      have e16 : b.tmps[16]?.getD undef = .int .i64 (Lib.compareInt sx sy) := hW 10 16 (hpre ⟨10, .data⟩ (by simp) rfl) rfl
      have e27 : b.tmps[27]?.getD undef = .int .i64 (Lib.compareInt (vy : Int) (vx : Int)) := hW 21 27 (hpre ⟨21, .data⟩ (by simp) rfl) rfl
      have e30 : b.tmps[30]?.getD undef = .int .i64 (Lib.compareInt (x : Int) (y : Int)) := hW 24 30 (hpre ⟨24, .data⟩ (by simp) rfl) rfl
      have hwx : wx = w.drew := by have h := hG.eq; rw [hun] at h; exact h
      subst hwx
      refine wp_of_value (w' := w.drew.alloc (.cells #[.int .i64 (Lib.compareInt sx sy), .int .i64 (Lib.compareInt (vy : Int) (vx : Int)), .int .i64 (Lib.compareInt (x : Int) (y : Int))] 3)) (v := .slice (some ⟨w.heap.size, 0, none⟩) 3 3) ?_ ⟨_, rfl, ⟨rfl⟩, Ext.alloc _ _ _, fun h => (by cases h), rfl⟩
      clear hW hold hpre haft hG
      go_simp
    | 26, hi, hun, haft =>
      simp only [List.getElem?_toArray, List.getElem?_cons_zero, List.getElem?_cons_succ, Option.some.injEq] at hi
      subst hi
      have e31 : b.tmps[31]?.getD undef = .slice (some ⟨w.heap.size, 0, none⟩) 3 3 := hW 25 31 (hpre ⟨25, .data⟩ (by simp) rfl) rfl
      have hwx : wx = w.drew.alloc (.cells #[.int .i64 (Lib.compareInt sx sy), .int .i64 (Lib.compareInt (vy : Int) (vx : Int)), .int .i64 (Lib.compareInt (x : Int) (y : Int))] 3) := by have h := hG.eq; rw [hpre ⟨25, .data⟩ (by simp) rfl] at h; exact h
      have hr := World.rowIs_alloc w.drew #[.int .i64 (Lib.compareInt sx sy), .int .i64 (Lib.compareInt (vy : Int) (vx : Int)), .int .i64 (Lib.compareInt (x : Int) (y : Int))] 3 (fun j => if j = 0 then .int .i64 (Lib.compareInt sx sy) else if j = 1 then .int .i64 (Lib.compareInt (vy : Int) (vx : Int)) else .int .i64 (Lib.compareInt (x : Int) (y : Int))) (fun i hi => by
        have : i = 0 ∨ i = 1 ∨ i = 2 := by simp at hi; omega
        rcases this with rfl | rfl | rfl <;> rfl)
      rw [← hwx] at hr
      refine wp_of_call (w1 := wx) (f := 25) (args := #[.slice (some ⟨w.heap.size, 0, none⟩) 3 3]) ?_ ?_
      · clear hW hold hpre haft hG hr
        go_simp
      · refine (or_any w.heap.size _ _ _ wx (by simpa using hr.cell (i := 0) (by simp)) (by simpa using hr.cell (i := 1) (by simp)) (by simpa using hr.cell (i := 2) (by simp))).mono ?_
        rintro ee w' ⟨rfl, rfl⟩
        exact ⟨_, rfl, _, rfl, hG, Ext.refl _ _, fun h => (by cases h), rfl⟩
    | 27, hi, hun, haft =>
      simp only [List.getElem?_toArray, List.getElem?_cons_zero, List.getElem?_cons_succ, Option.some.injEq] at hi
      subst hi
      have e32 : b.tmps[32]?.getD undef = .int .i64 (cf3 sx sy vx vy x y) := hW 26 32 (hpre ⟨26, .data⟩ (by simp) rfl) rfl
      refine wp_of_value (w' := wx) (v := .int .i64 (cf3 sx sy vx vy x y)) ?_ ⟨_, rfl, hG, Ext.refl _ _, fun h => (by cases h), rfl⟩
      clear hW hold hpre haft hG
      go_simp
    | _ + 28, hi, _, _ => simp at hi
  · intro b wx l hsz' hds' hall hW hold hG
    have e5 : b.tmps[5]?.getD undef = .int .i64 (cf3 sx sy vx vy x y) := hW 27 5 rfl
    have hwx := hG.eq
    rw [hall 25 (by decide)] at hwx
    rw [hwx]
    exact hend b hsz' hds' e5

set_option maxRecDepth 100000 in
theorem cmp24 (bx ib n c x y vx vy : Nat) (sx sy : Int) (w : World) (hbx : w.cell? ⟨bx, 0, none⟩ = some (.slice (some ⟨ib, 0, none⟩) n c)) (hx0 : w.cell? ⟨ib, x * 2, none⟩ = some (.int .i64 sx)) (hx1 : w.cell? ⟨ib, x * 2 + 1, none⟩ = some (.float .f64 (W vx))) (hy0 : w.cell? ⟨ib, y * 2, none⟩ = some (.int .i64 sy)) (hy1 : w.cell? ⟨ib, y * 2 + 1, none⟩ = some (.float .f64 (W vy))) (hx : x < n) (hy : y < n) (hvx : vx < 1000) (hvy : vy < 1000) :
    Calls Yba.prog 24 #[.int .i64 (x : Int), .int .i64 (y : Int), .pointer (some ⟨bx, 0, none⟩)] w fun e w' => e = .returned (.int .i64 (cf3 sx sy vx vy x y)) ∧ ∃ q os, w' = Go.Sort.grow (w.drewN q) os := by
  go_enter Yba.func24, Yba.ntmps24
  go_wp2_with fail
  rename_i K1 hK1
  refine k24 bx ib n c x y vx vy sx sy _ w rfl rfl rfl rfl rfl hbx hx0 hx1 hy0 hy1 hx hy hvx hvy ?_
  intro f' h1 h2 h3
  refine hK1 _ _ ?_
  go_wp2_with fail
  refine bodyPost_ret (v := .int .i64 (cf3 sx sy vx vy x y)) ?_ h2 ⟨rfl, 1, _, Go.Sort.alloc_eq_grow _ _⟩
  simp [results, Yba.results24, go_sem, h1]
  simp [h1] at h3
  exact h3
end Go.Proofs.Ybulkbnbu.Kn
