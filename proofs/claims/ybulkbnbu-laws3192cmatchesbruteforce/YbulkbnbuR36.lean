/-
  Region of the staircase's 'add' (function 30) that draws its order: both slices of the new staircase grow.
-/
import Derived.Test.YbulkbnbuOut
namespace Go.Proofs.Ybulkbnbu.Kn
set_option linter.unusedSimpArgs false
set_option linter.unusedVariables false
open Go.ChangeShapes Go.WideShapes Go.ChangeAt Go.RowKit
open Go.Proofs.Ybulkbnbu.Fl

set_option maxRecDepth 100000 in
set_option maxHeartbeats 4000000 in
theorem r36 {Q : Exit → Act → World → Prop} (B hb gs gv cs cv : Nat) (xs us : List Nat) (c v : Nat) (f : Act) (w : World) (hO : Out B w hb gs gv cs cv xs.length us.length xs us) 
    (hroomA : xs.length + ([c] : List Nat).length ≤ cs) (hroomB : us.length + ([v] : List Nat).length ≤ cv) (hsz : f.tmps.size = 285) (hds : f.defers = []) (ht16 : f.tmps[16]?.getD undef = .pointer (some ⟨hb, 0, none⟩)) (ht23 : f.tmps[23]?.getD undef = .int .i64 (c : Int)) (ht25 : f.tmps[25]?.getD undef = .float .f64 (W v))
    (hend : ∀ f' w', f'.tmps.size = 285 → f'.defers = [] → (∀ t, t < 26 → f'.tmps[t]?.getD undef = f.tmps[t]?.getD undef) → Out B w' hb gs gv cs cv (xs ++ [c]).length (us ++ [v]).length (xs ++ [c]) (us ++ [v]) → Keeps (fun k => k = hb ∨ k = gs ∨ k = gv) w w' → Q .normal f' w') :
    Code.wp Yba.prog ((Yba.f30.body.bind (reg 36)).getD .skip) Q f w := by
  conv => arg 2; whnf
  have hne := hO.ne
  have hH : hb < w.heap.size ∧ gs < w.heap.size ∧ gv < w.heap.size := ⟨hne.2.2.2.1, hne.2.2.2.2.1, hne.2.2.2.2.2⟩
  let GG : (Nat → Bool) → World → Prop := fun l wx => GO B w hb gs gv cs cv xs us [c] [v] (l 4) (l 9) (l 11) (l 13) wx
  refine ops_law (N := 285) f w (by kernel_rfl) hsz hds (WW (fun i => match i with
    | 0 => .pointer (some ⟨hb, 0, none⟩)
    | 1 => .slice (some ⟨gs, 0, none⟩) (xs.length) cs
    | 2 => .int .i64 (c : Int)
    | 4 => .slice (some ⟨gs, 0, none⟩) (xs.length + ([c] : List Nat).length) cs
    | 5 => .pointer (some ⟨hb, 1, none⟩)
    | 6 => .slice (some ⟨gv, 0, none⟩) (us.length) cv
    | 7 => .float .f64 (W v)
    | 9 => .slice (some ⟨gv, 0, none⟩) (us.length + ([v] : List Nat).length) cv
    | 10 => .pointer (some ⟨hb, 0, none⟩)
    | 11 => undef
    | 12 => .pointer (some ⟨hb, 1, none⟩)
    | 13 => undef
    | _ => undef) (fun i => match i with
    | 3 => some (#[.int .i64 (c : Int)], 3)
    | 8 => some (#[.float .f64 (W v)], 26)
    | _ => none) w.heap.size) GG w.heap.size (WW_ext _ _ _) ⟨hO.drew, (Keeps.refl _ _).drew⟩ ?_ ?_
  · intro i o hi l b wx hun haft hpre hW hold hG
    have hG0 : GG l wx := hG
    change GO B w hb gs gv cs cv xs us [c] [v] (l 4) (l 9) (l 11) (l 13) wx at hG0
    match i, hi, hun, haft with
    | 0, hi, hun, haft =>
      simp only [List.getElem?_toArray, List.getElem?_cons_zero, List.getElem?_cons_succ, Option.some.injEq] at hi
      subst hi
      have e16 : b.tmps[16]?.getD undef = .pointer (some ⟨hb, 0, none⟩) := (hold 16 (by decide)).trans ht16
      refine wp_of_value (w' := wx) (v := .pointer (some ⟨hb, 0, none⟩)) ?_ ⟨_, rfl, hG, Ext.refl _ _, fun h => (by cases h), rfl⟩
      clear hW hold hpre haft hG
      go_simp
    | 1, hi, hun, haft =>
      simp only [List.getElem?_toArray, List.getElem?_cons_zero, List.getElem?_cons_succ, Option.some.injEq] at hi
      subst hi
      have e215 : b.tmps[215]?.getD undef = .pointer (some ⟨hb, 0, none⟩) := hW 0 215 (hpre ⟨0, .data⟩ (by simp) rfl) rfl
      have c11 : l 11 = false := haft 11 _ rfl ⟨1, .phase⟩ (by simp) rfl rfl
      rw [show GG l wx = GO B w hb gs gv cs cv xs us [c] [v] (l 4) (l 9) (l 11) (l 13) wx from rfl, c11] at hG
      have k0 := hG.hd0
      refine wp_of_value (w' := wx) (v := .slice (some ⟨gs, 0, none⟩) (xs.length) cs) ?_ ⟨_, rfl, (by show GO B w hb gs gv cs cv xs us [c] [v] (l 4) (l 9) (l 11) (l 13) wx; rw [c11]; exact hG), Ext.refl _ _, fun h => (by cases h), rfl⟩
      clear hW hold hpre haft hG
      go_simp
    | 2, hi, hun, haft =>
      simp only [List.getElem?_toArray, List.getElem?_cons_zero, List.getElem?_cons_succ, Option.some.injEq] at hi
      subst hi
      have e23 : b.tmps[23]?.getD undef = .int .i64 (c : Int) := (hold 23 (by decide)).trans ht23
      refine wp_of_value (w' := wx) (v := .int .i64 (c : Int)) ?_ ⟨_, rfl, hG, Ext.refl _ _, fun h => (by cases h), rfl⟩
      clear hW hold hpre haft hG
      go_simp
    | 3, hi, hun, haft =>
      simp only [List.getElem?_toArray, List.getElem?_cons_zero, List.getElem?_cons_succ, Option.some.injEq] at hi
      subst hi
      have e217 : b.tmps[217]?.getD undef = .int .i64 (c : Int) := hW 2 217 (hpre ⟨2, .data⟩ (by simp) rfl) rfl
      refine wp_of_value (w' := wx.alloc (.cells #[.int .i64 (c : Int)] 3)) (v := .slice (some ⟨wx.heap.size, 0, none⟩) 1 1) ?_ ⟨_, rfl, hG.alloc _, Ext.alloc _ _ _, fun h => (by cases h), ?_⟩
      · clear hW hold hpre haft hG
        go_simp
      · exact ⟨wx.heap.size, rfl, hG.keeps.size, by simp, heap_alloc_new wx _⟩
    | 4, hi, hun, haft =>
      simp only [List.getElem?_toArray, List.getElem?_cons_zero, List.getElem?_cons_succ, Option.some.injEq] at hi
      subst hi
      have e216 : b.tmps[216]?.getD undef = .slice (some ⟨gs, 0, none⟩) (xs.length) cs := hW 1 216 (hpre ⟨1, .data⟩ (by simp) rfl) rfl
      have e218 := hW 3 218 (hpre ⟨3, .data⟩ (by simp) rfl) rfl
      have q9 : l 9 = false := haft 9 _ rfl ⟨4, .chain⟩ (by simp) rfl rfl
      have q11 : l 11 = false := haft 11 _ rfl ⟨4, .data⟩ (by simp) rfl rfl
      have q13 : l 13 = false := haft 13 _ rfl ⟨4, .phase⟩ (by simp) rfl rfl
      change GO B w hb gs gv cs cv xs us [c] [v] (l 4) (l 9) (l 11) (l 13) wx at hG
      rw [hun, q9, q11, q13] at hG
      obtain ⟨bb, e218', hb1, hb2, hb3⟩ := e218
      obtain ⟨i0, hi0, hz0, hz1, hz2⟩ := info_parts info3
      refine wp_fits (w := wx) (.tmp 216) (.tmp 218) 29 3 rfl B 1 i0 Yba.underlying29 hi0 hz1 gs xs.length cs _ (by simpa [Act.eval] using e216) hG.out.rs ⟨bb, 0, none⟩ 1 1 (ints [c]) (by simpa [Act.eval] using e218') rfl (World.news_of_block hb3) (ints_one _) (by simpa using hroomA) ?_
      intro w' ho hgr
      have hgl := hG.out.ne
      refine ⟨_, rfl, ?_, ⟨hgr.size, fun k h1 h2 => hgr.block k h2 (by have := hG0.out.ne; simp; omega)⟩, fun h => (by cases h), rfl⟩
      show GO B w hb gs gv cs cv xs us [c] [v] _ _ _ _ w'
      have hG2 := hG.appA (w' := w') ho hgr
      simp only [Nat.reduceEqDiff, if_false, if_true, q9, q11, q13]
      exact hG2
    | 5, hi, hun, haft =>
      simp only [List.getElem?_toArray, List.getElem?_cons_zero, List.getElem?_cons_succ, Option.some.injEq] at hi
      subst hi
      have e16 : b.tmps[16]?.getD undef = .pointer (some ⟨hb, 0, none⟩) := (hold 16 (by decide)).trans ht16
      refine wp_of_value (w' := wx) (v := .pointer (some ⟨hb, 1, none⟩)) ?_ ⟨_, rfl, hG, Ext.refl _ _, fun h => (by cases h), rfl⟩
      clear hW hold hpre haft hG
      go_simp
    | 6, hi, hun, haft =>
      simp only [List.getElem?_toArray, List.getElem?_cons_zero, List.getElem?_cons_succ, Option.some.injEq] at hi
      subst hi
      have e220 : b.tmps[220]?.getD undef = .pointer (some ⟨hb, 1, none⟩) := hW 5 220 (hpre ⟨5, .data⟩ (by simp) rfl) rfl
      have c13 : l 13 = false := haft 13 _ rfl ⟨6, .phase⟩ (by simp) rfl rfl
      rw [show GG l wx = GO B w hb gs gv cs cv xs us [c] [v] (l 4) (l 9) (l 11) (l 13) wx from rfl, c13] at hG
      have k1 := hG.hd1
      refine wp_of_value (w' := wx) (v := .slice (some ⟨gv, 0, none⟩) (us.length) cv) ?_ ⟨_, rfl, (by show GO B w hb gs gv cs cv xs us [c] [v] (l 4) (l 9) (l 11) (l 13) wx; rw [c13]; exact hG), Ext.refl _ _, fun h => (by cases h), rfl⟩
      clear hW hold hpre haft hG
      go_simp
    | 7, hi, hun, haft =>
      simp only [List.getElem?_toArray, List.getElem?_cons_zero, List.getElem?_cons_succ, Option.some.injEq] at hi
      subst hi
      have e25 : b.tmps[25]?.getD undef = .float .f64 (W v) := (hold 25 (by decide)).trans ht25
      refine wp_of_value (w' := wx) (v := .float .f64 (W v)) ?_ ⟨_, rfl, hG, Ext.refl _ _, fun h => (by cases h), rfl⟩
      clear hW hold hpre haft hG
      go_simp
    | 8, hi, hun, haft =>
      simp only [List.getElem?_toArray, List.getElem?_cons_zero, List.getElem?_cons_succ, Option.some.injEq] at hi
      subst hi
      have e222 : b.tmps[222]?.getD undef = .float .f64 (W v) := hW 7 222 (hpre ⟨7, .data⟩ (by simp) rfl) rfl
      refine wp_of_value (w' := wx.alloc (.cells #[.float .f64 (W v)] 26)) (v := .slice (some ⟨wx.heap.size, 0, none⟩) 1 1) ?_ ⟨_, rfl, hG.alloc _, Ext.alloc _ _ _, fun h => (by cases h), ?_⟩
      · clear hW hold hpre haft hG
        go_simp
      · exact ⟨wx.heap.size, rfl, hG.keeps.size, by simp, heap_alloc_new wx _⟩
    | 9, hi, hun, haft =>
      simp only [List.getElem?_toArray, List.getElem?_cons_zero, List.getElem?_cons_succ, Option.some.injEq] at hi
      subst hi
      have e221 : b.tmps[221]?.getD undef = .slice (some ⟨gv, 0, none⟩) (us.length) cv := hW 6 221 (hpre ⟨6, .data⟩ (by simp) rfl) rfl
      have e223 := hW 8 223 (hpre ⟨8, .data⟩ (by simp) rfl) rfl
      have q4 : l 4 = true := hpre ⟨4, .chain⟩ (by simp) rfl
      have q11 : l 11 = false := haft 11 _ rfl ⟨9, .chain⟩ (by simp) rfl rfl
      have q13 : l 13 = false := haft 13 _ rfl ⟨9, .data⟩ (by simp) rfl rfl
      change GO B w hb gs gv cs cv xs us [c] [v] (l 4) (l 9) (l 11) (l 13) wx at hG
      rw [hun, q4, q11, q13] at hG
      obtain ⟨bb, e223', hb1, hb2, hb3⟩ := e223
      obtain ⟨i0, hi0, hz0, hz1, hz2⟩ := info_parts info26
      refine wp_fits (w := wx) (.tmp 221) (.tmp 223) 54 26 rfl B 1 i0 Yba.underlying54 hi0 hz1 gv us.length cv _ (by simpa [Act.eval] using e221) hG.out.rv ⟨bb, 0, none⟩ 1 1 (flts [v]) (by simpa [Act.eval] using e223') rfl (World.news_of_block hb3) (flts_one _) (by simpa using hroomB) ?_
      intro w' ho hgr
      have hgl := hG.out.ne
      refine ⟨_, rfl, ?_, ⟨hgr.size, fun k h1 h2 => hgr.block k h2 (by have := hG0.out.ne; simp; omega)⟩, fun h => (by cases h), rfl⟩
      show GO B w hb gs gv cs cv xs us [c] [v] _ _ _ _ w'
      have hG2 := hG.appB (w' := w') ho hgr
      simp only [Nat.reduceEqDiff, if_false, if_true, q4, q11, q13]
      exact hG2
    | 10, hi, hun, haft =>
      simp only [List.getElem?_toArray, List.getElem?_cons_zero, List.getElem?_cons_succ, Option.some.injEq] at hi
      subst hi
      have e16 : b.tmps[16]?.getD undef = .pointer (some ⟨hb, 0, none⟩) := (hold 16 (by decide)).trans ht16
      refine wp_of_value (w' := wx) (v := .pointer (some ⟨hb, 0, none⟩)) ?_ ⟨_, rfl, hG, Ext.refl _ _, fun h => (by cases h), rfl⟩
      clear hW hold hpre haft hG
      go_simp
    | 11, hi, hun, haft =>
      simp only [List.getElem?_toArray, List.getElem?_cons_zero, List.getElem?_cons_succ, Option.some.injEq] at hi
      subst hi
      have e225 : b.tmps[225]?.getD undef = .pointer (some ⟨hb, 0, none⟩) := hW 10 225 (hpre ⟨10, .data⟩ (by simp) rfl) rfl
      have e219 : b.tmps[219]?.getD undef = .slice (some ⟨gs, 0, none⟩) (xs.length + ([c] : List Nat).length) cs := hW 4 219 (hpre ⟨4, .data⟩ (by simp) rfl) rfl
      have q4 : l 4 = true := hpre ⟨4, .data⟩ (by simp) rfl
      have q9 : l 9 = true := hpre ⟨9, .chain⟩ (by simp) rfl
      have q13 : l 13 = false := haft 13 _ rfl ⟨11, .chain⟩ (by simp) rfl rfl
      change GO B w hb gs gv cs cv xs us [c] [v] (l 4) (l 9) (l 11) (l 13) wx at hG
      rw [hun, q4, q9, q13] at hG
      have hG2 := hG.stA
      have kc := hG.hd0
      have kf := hG.out.hdr.frozen 0
      simp only [List.length_append] at hG2
      refine wp_of_skip (w' := wx.setCell ⟨hb, 0, none⟩ (.slice (some ⟨gs, 0, none⟩) (xs.length + ([c] : List Nat).length) cs)) ?_ ⟨_, rfl, ?_, Ext.setCell _ _ _ _ hH.1, fun _ => rfl, rfl⟩
      · clear hW hold hpre haft hG hG2 hG0
        go_simp
      · show GO B w hb gs gv cs cv xs us [c] [v] _ _ _ _ _
        simp only [Nat.reduceEqDiff, if_false, if_true, q4, q9, q13]
        exact hG2
    | 12, hi, hun, haft =>
      simp only [List.getElem?_toArray, List.getElem?_cons_zero, List.getElem?_cons_succ, Option.some.injEq] at hi
      subst hi
      have e16 : b.tmps[16]?.getD undef = .pointer (some ⟨hb, 0, none⟩) := (hold 16 (by decide)).trans ht16
      refine wp_of_value (w' := wx) (v := .pointer (some ⟨hb, 1, none⟩)) ?_ ⟨_, rfl, hG, Ext.refl _ _, fun h => (by cases h), rfl⟩
      clear hW hold hpre haft hG
      go_simp
    | 13, hi, hun, haft =>
      simp only [List.getElem?_toArray, List.getElem?_cons_zero, List.getElem?_cons_succ, Option.some.injEq] at hi
      subst hi
      have e226 : b.tmps[226]?.getD undef = .pointer (some ⟨hb, 1, none⟩) := hW 12 226 (hpre ⟨12, .data⟩ (by simp) rfl) rfl
      have e224 : b.tmps[224]?.getD undef = .slice (some ⟨gv, 0, none⟩) (us.length + ([v] : List Nat).length) cv := hW 9 224 (hpre ⟨9, .data⟩ (by simp) rfl) rfl
      have q4 : l 4 = true := hpre ⟨4, .phase⟩ (by simp) rfl
      have q9 : l 9 = true := hpre ⟨9, .data⟩ (by simp) rfl
      have q11 : l 11 = true := hpre ⟨11, .chain⟩ (by simp) rfl
      change GO B w hb gs gv cs cv xs us [c] [v] (l 4) (l 9) (l 11) (l 13) wx at hG
      rw [hun, q4, q9, q11] at hG
      have hG2 := hG.stB
      have kc := hG.hd1
      have kf := hG.out.hdr.frozen 1
      simp only [List.length_append] at hG2
      refine wp_of_skip (w' := wx.setCell ⟨hb, 1, none⟩ (.slice (some ⟨gv, 0, none⟩) (us.length + ([v] : List Nat).length) cv)) ?_ ⟨_, rfl, ?_, Ext.setCell _ _ _ _ hH.1, fun _ => rfl, rfl⟩
      · clear hW hold hpre haft hG hG2 hG0
        go_simp
      · show GO B w hb gs gv cs cv xs us [c] [v] _ _ _ _ _
        simp only [Nat.reduceEqDiff, if_false, if_true, q4, q9, q11]
        exact hG2
    | _ + 14, hi, _, _ => simp at hi
  · intro b wx l hsz' hds' hall hW hold hG
    change GO B w hb gs gv cs cv xs us [c] [v] (l 4) (l 9) (l 11) (l 13) wx at hG
    rw [hall 4 (by decide), hall 9 (by decide), hall 11 (by decide), hall 13 (by decide)] at hG
    exact hend b wx hsz' hds' (fun t ht => hold t (fun hm => by
      have hm' : t ∈ [215, 216, 217, 218, 219, 220, 221, 222, 223, 224, 225, 226] := hm
      simp at hm'; omega)) hG.out hG.keeps
end Go.Proofs.Ybulkbnbu.Kn
