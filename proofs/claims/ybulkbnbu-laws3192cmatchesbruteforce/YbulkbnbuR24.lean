/-
  Region of the staircase's 'add' (function 30) that draws its order: both slices of the new staircase grow.
-/
import Derived.Test.YbulkbnbuOut
namespace Go.Proofs.Ybulkbnbu.Kn
set_option linter.unusedSimpArgs false
set_option linter.unusedVariables false
open Go.ChangeShapes Go.WideShapes Go.ChangeAt Go.RowKit
open Go.Proofs.Ybulkbnbu.Fl

set_option maxRecDepth 100000 in
set_option maxHeartbeats 4000000 in
theorem r24 {Q : Exit → Act → World → Prop} (B hb gs gv cs cv : Nat) (xs us : List Nat) (c v sz L cS p : Nat) (f : Act) (w : World) (hO : Out B w hb gs gv cs cv xs.length us.length xs us) (hpL : p < L) (hcell : w.cell? ⟨sz, p, none⟩ = some (.int .i64 (c : Int))) (hsd : ¬ (sz = hb ∨ sz = gs ∨ sz = gv))
    (hroomA : xs.length + ([c] : List Nat).length ≤ cs) (hroomB : us.length + ([v] : List Nat).length ≤ cv) (hsz : f.tmps.size = 285) (hds : f.defers = []) (ht16 : f.tmps[16]?.getD undef = .pointer (some ⟨hb, 0, none⟩)) (ht12 : f.tmps[12]?.getD undef = .slice (some ⟨sz, 0, none⟩) L cS) (ht17 : f.tmps[17]?.getD undef = .int .i64 (p : Int)) (ht18 : f.tmps[18]?.getD undef = .float .f64 (W v))
    (hend : ∀ f' w', f'.tmps.size = 285 → f'.defers = [] → (∀ t, t < 26 → f'.tmps[t]?.getD undef = f.tmps[t]?.getD undef) → Out B w' hb gs gv cs cv (xs ++ [c]).length (us ++ [v]).length (xs ++ [c]) (us ++ [v]) → Keeps (fun k => k = hb ∨ k = gs ∨ k = gv) w w' → Q .normal f' w') :
    Code.wp Yba.prog ((Yba.f30.body.bind (reg 24)).getD .skip) Q f w := by
  conv => arg 2; whnf
  have hne := hO.ne
  have hH : hb < w.heap.size ∧ gs < w.heap.size ∧ gv < w.heap.size := ⟨hne.2.2.2.1, hne.2.2.2.2.1, hne.2.2.2.2.2⟩
  have hp0 : (0 : Int) ≤ (p : Int) := by omega
  have hp1 : (p : Int) < (L : Int) := by omega
  let GG : (Nat → Bool) → World → Prop := fun l wx => GO B w hb gs gv cs cv xs us [c] [v] (l 7) (l 12) (l 14) (l 16) wx
  refine ops_law (N := 285) f w (by kernel_rfl) hsz hds (WW (fun i => match i with
    | 0 => .pointer (some ⟨hb, 0, none⟩)
    | 1 => .slice (some ⟨gs, 0, none⟩) (xs.length) cs
    | 2 => .slice (some ⟨sz, 0, none⟩) L cS
    | 3 => .int .i64 (p : Int)
    | 4 => .pointer (some ⟨sz, p, none⟩)
    | 5 => .int .i64 (c : Int)
    | 7 => .slice (some ⟨gs, 0, none⟩) (xs.length + ([c] : List Nat).length) cs
    | 8 => .pointer (some ⟨hb, 1, none⟩)
    | 9 => .slice (some ⟨gv, 0, none⟩) (us.length) cv
    | 10 => .float .f64 (W v)
    | 12 => .slice (some ⟨gv, 0, none⟩) (us.length + ([v] : List Nat).length) cv
    | 13 => .pointer (some ⟨hb, 0, none⟩)
    | 14 => undef
    | 15 => .pointer (some ⟨hb, 1, none⟩)
    | 16 => undef
    | _ => undef) (fun i => match i with
    | 6 => some (#[.int .i64 (c : Int)], 3)
    | 11 => some (#[.float .f64 (W v)], 26)
    | _ => none) w.heap.size) GG w.heap.size (WW_ext _ _ _) ⟨hO.drew, (Keeps.refl _ _).drew⟩ ?_ ?_
  · intro i o hi l b wx hun haft hpre hW hold hG
    have hG0 : GG l wx := hG
    change GO B w hb gs gv cs cv xs us [c] [v] (l 7) (l 12) (l 14) (l 16) wx at hG0
    match i, hi, hun, haft with
    | 0, hi, hun, haft =>
      simp only [List.getElem?_toArray, List.getElem?_cons_zero, List.getElem?_cons_succ, Option.some.injEq] at hi
      subst hi
      have e16 : b.tmps[16]?.getD undef = .pointer (some ⟨hb, 0, none⟩) := (hold 16 (by decide)).trans ht16
      refine wp_of_value (w' := wx) (v := .pointer (some ⟨hb, 0, none⟩)) ?_ ⟨_, rfl, hG, Ext.refl _ _, fun h => (by cases h), rfl⟩
      clear hW hold hpre haft hG
      go_simp
    | 1, hi, hun, haft =>
      simp only [List.getElem?_toArray, List.getElem?_cons_zero, List.getElem?_cons_succ, Option.some.injEq] at hi
      subst hi
      have e157 : b.tmps[157]?.getD undef = .pointer (some ⟨hb, 0, none⟩) := hW 0 157 (hpre ⟨0, .data⟩ (by simp) rfl) rfl
      have c11 : l 14 = false := haft 14 _ rfl ⟨1, .phase⟩ (by simp) rfl rfl
      rw [show GG l wx = GO B w hb gs gv cs cv xs us [c] [v] (l 7) (l 12) (l 14) (l 16) wx from rfl, c11] at hG
      have k0 := hG.hd0
      refine wp_of_value (w' := wx) (v := .slice (some ⟨gs, 0, none⟩) (xs.length) cs) ?_ ⟨_, rfl, (by show GO B w hb gs gv cs cv xs us [c] [v] (l 7) (l 12) (l 14) (l 16) wx; rw [c11]; exact hG), Ext.refl _ _, fun h => (by cases h), rfl⟩
      clear hW hold hpre haft hG
      go_simp
    | 2, hi, hun, haft =>
      simp only [List.getElem?_toArray, List.getElem?_cons_zero, List.getElem?_cons_succ, Option.some.injEq] at hi
      subst hi
      have e12 : b.tmps[12]?.getD undef = .slice (some ⟨sz, 0, none⟩) L cS := (hold 12 (by decide)).trans ht12
      refine wp_of_value (w' := wx) (v := .slice (some ⟨sz, 0, none⟩) L cS) ?_ ⟨_, rfl, hG, Ext.refl _ _, fun h => (by cases h), rfl⟩
      clear hW hold hpre haft hG
      go_simp
    | 3, hi, hun, haft =>
      simp only [List.getElem?_toArray, List.getElem?_cons_zero, List.getElem?_cons_succ, Option.some.injEq] at hi
      subst hi
      have e17 : b.tmps[17]?.getD undef = .int .i64 (p : Int) := (hold 17 (by decide)).trans ht17
      refine wp_of_value (w' := wx) (v := .int .i64 (p : Int)) ?_ ⟨_, rfl, hG, Ext.refl _ _, fun h => (by cases h), rfl⟩
      clear hW hold hpre haft hG
      go_simp
    | 4, hi, hun, haft =>
      simp only [List.getElem?_toArray, List.getElem?_cons_zero, List.getElem?_cons_succ, Option.some.injEq] at hi
      subst hi
      have e159 : b.tmps[159]?.getD undef = .slice (some ⟨sz, 0, none⟩) L cS := hW 2 159 (hpre ⟨2, .data⟩ (by simp) rfl) rfl
      have e160 : b.tmps[160]?.getD undef = .int .i64 (p : Int) := hW 3 160 (hpre ⟨3, .data⟩ (by simp) rfl) rfl
      refine wp_of_value (w' := wx) (v := .pointer (some ⟨sz, p, none⟩)) ?_ ⟨_, rfl, hG, Ext.refl _ _, fun h => (by cases h), rfl⟩
      clear hW hold hpre haft hG
      go_simp
    | 5, hi, hun, haft =>
      simp only [List.getElem?_toArray, List.getElem?_cons_zero, List.getElem?_cons_succ, Option.some.injEq] at hi
      subst hi
      have e161 : b.tmps[161]?.getD undef = .pointer (some ⟨sz, p, none⟩) := hW 4 161 (hpre ⟨4, .data⟩ (by simp) rfl) rfl
      have kk := hG0.keeps.cell hcell hsd
      refine wp_of_value (w' := wx) (v := .int .i64 (c : Int)) ?_ ⟨_, rfl, hG, Ext.refl _ _, fun h => (by cases h), rfl⟩
      clear hW hold hpre haft hG hG0
      go_simp
    | 6, hi, hun, haft =>
      simp only [List.getElem?_toArray, List.getElem?_cons_zero, List.getElem?_cons_succ, Option.some.injEq] at hi
      subst hi
      have e162 : b.tmps[162]?.getD undef = .int .i64 (c : Int) := hW 5 162 (hpre ⟨5, .data⟩ (by simp) rfl) rfl
      refine wp_of_value (w' := wx.alloc (.cells #[.int .i64 (c : Int)] 3)) (v := .slice (some ⟨wx.heap.size, 0, none⟩) 1 1) ?_ ⟨_, rfl, hG.alloc _, Ext.alloc _ _ _, fun h => (by cases h), ?_⟩
      · clear hW hold hpre haft hG
        go_simp
      · exact ⟨wx.heap.size, rfl, hG.keeps.size, by simp, heap_alloc_new wx _⟩
    | 7, hi, hun, haft =>
      simp only [List.getElem?_toArray, List.getElem?_cons_zero, List.getElem?_cons_succ, Option.some.injEq] at hi
      subst hi
      have e158 : b.tmps[158]?.getD undef = .slice (some ⟨gs, 0, none⟩) (xs.length) cs := hW 1 158 (hpre ⟨1, .data⟩ (by simp) rfl) rfl
      have e163 := hW 6 163 (hpre ⟨6, .data⟩ (by simp) rfl) rfl
      have q12 : l 12 = false := haft 12 _ rfl ⟨7, .chain⟩ (by simp) rfl rfl
      have q14 : l 14 = false := haft 14 _ rfl ⟨7, .data⟩ (by simp) rfl rfl
      have q16 : l 16 = false := haft 16 _ rfl ⟨7, .phase⟩ (by simp) rfl rfl
      change GO B w hb gs gv cs cv xs us [c] [v] (l 7) (l 12) (l 14) (l 16) wx at hG
      rw [hun, q12, q14, q16] at hG
      obtain ⟨bb, e163', hb1, hb2, hb3⟩ := e163
      obtain ⟨i0, hi0, hz0, hz1, hz2⟩ := info_parts info3
      refine wp_fits (w := wx) (.tmp 158) (.tmp 163) 29 3 rfl B 1 i0 Yba.underlying29 hi0 hz1 gs xs.length cs _ (by simpa [Act.eval] using e158) hG.out.rs ⟨bb, 0, none⟩ 1 1 (ints [c]) (by simpa [Act.eval] using e163') rfl (World.news_of_block hb3) (ints_one _) (by simpa using hroomA) ?_
      intro w' ho hgr
      have hgl := hG.out.ne
      refine ⟨_, rfl, ?_, ⟨hgr.size, fun k h1 h2 => hgr.block k h2 (by have := hG0.out.ne; simp; omega)⟩, fun h => (by cases h), rfl⟩
      show GO B w hb gs gv cs cv xs us [c] [v] _ _ _ _ w'
      have hG2 := hG.appA (w' := w') ho hgr
      simp only [Nat.reduceEqDiff, if_false, if_true, q12, q14, q16]
      exact hG2
    | 8, hi, hun, haft =>
      simp only [List.getElem?_toArray, List.getElem?_cons_zero, List.getElem?_cons_succ, Option.some.injEq] at hi
      subst hi
      have e16 : b.tmps[16]?.getD undef = .pointer (some ⟨hb, 0, none⟩) := (hold 16 (by decide)).trans ht16
      refine wp_of_value (w' := wx) (v := .pointer (some ⟨hb, 1, none⟩)) ?_ ⟨_, rfl, hG, Ext.refl _ _, fun h => (by cases h), rfl⟩
      clear hW hold hpre haft hG
      go_simp
    | 9, hi, hun, haft =>
      simp only [List.getElem?_toArray, List.getElem?_cons_zero, List.getElem?_cons_succ, Option.some.injEq] at hi
      subst hi
      have e165 : b.tmps[165]?.getD undef = .pointer (some ⟨hb, 1, none⟩) := hW 8 165 (hpre ⟨8, .data⟩ (by simp) rfl) rfl
      have c13 : l 16 = false := haft 16 _ rfl ⟨9, .phase⟩ (by simp) rfl rfl
      rw [show GG l wx = GO B w hb gs gv cs cv xs us [c] [v] (l 7) (l 12) (l 14) (l 16) wx from rfl, c13] at hG
      have k1 := hG.hd1
      refine wp_of_value (w' := wx) (v := .slice (some ⟨gv, 0, none⟩) (us.length) cv) ?_ ⟨_, rfl, (by show GO B w hb gs gv cs cv xs us [c] [v] (l 7) (l 12) (l 14) (l 16) wx; rw [c13]; exact hG), Ext.refl _ _, fun h => (by cases h), rfl⟩
      clear hW hold hpre haft hG
      go_simp
    | 10, hi, hun, haft =>
      simp only [List.getElem?_toArray, List.getElem?_cons_zero, List.getElem?_cons_succ, Option.some.injEq] at hi
      subst hi
      have e18 : b.tmps[18]?.getD undef = .float .f64 (W v) := (hold 18 (by decide)).trans ht18
      refine wp_of_value (w' := wx) (v := .float .f64 (W v)) ?_ ⟨_, rfl, hG, Ext.refl _ _, fun h => (by cases h), rfl⟩
      clear hW hold hpre haft hG
      go_simp
    | 11, hi, hun, haft =>
      simp only [List.getElem?_toArray, List.getElem?_cons_zero, List.getElem?_cons_succ, Option.some.injEq] at hi
      subst hi
      have e167 : b.tmps[167]?.getD undef = .float .f64 (W v) := hW 10 167 (hpre ⟨10, .data⟩ (by simp) rfl) rfl
      refine wp_of_value (w' := wx.alloc (.cells #[.float .f64 (W v)] 26)) (v := .slice (some ⟨wx.heap.size, 0, none⟩) 1 1) ?_ ⟨_, rfl, hG.alloc _, Ext.alloc _ _ _, fun h => (by cases h), ?_⟩
      · clear hW hold hpre haft hG
        go_simp
      · exact ⟨wx.heap.size, rfl, hG.keeps.size, by simp, heap_alloc_new wx _⟩
    | 12, hi, hun, haft =>
      simp only [List.getElem?_toArray, List.getElem?_cons_zero, List.getElem?_cons_succ, Option.some.injEq] at hi
      subst hi
      have e166 : b.tmps[166]?.getD undef = .slice (some ⟨gv, 0, none⟩) (us.length) cv := hW 9 166 (hpre ⟨9, .data⟩ (by simp) rfl) rfl
      have e168 := hW 11 168 (hpre ⟨11, .data⟩ (by simp) rfl) rfl
      have q7 : l 7 = true := hpre ⟨7, .chain⟩ (by simp) rfl
      have q14 : l 14 = false := haft 14 _ rfl ⟨12, .chain⟩ (by simp) rfl rfl
      have q16 : l 16 = false := haft 16 _ rfl ⟨12, .data⟩ (by simp) rfl rfl
      change GO B w hb gs gv cs cv xs us [c] [v] (l 7) (l 12) (l 14) (l 16) wx at hG
      rw [hun, q7, q14, q16] at hG
      obtain ⟨bb, e168', hb1, hb2, hb3⟩ := e168
      obtain ⟨i0, hi0, hz0, hz1, hz2⟩ := info_parts info26
      refine wp_fits (w := wx) (.tmp 166) (.tmp 168) 54 26 rfl B 1 i0 Yba.underlying54 hi0 hz1 gv us.length cv _ (by simpa [Act.eval] using e166) hG.out.rv ⟨bb, 0, none⟩ 1 1 (flts [v]) (by simpa [Act.eval] using e168') rfl (World.news_of_block hb3) (flts_one _) (by simpa using hroomB) ?_
      intro w' ho hgr
      have hgl := hG.out.ne
      refine ⟨_, rfl, ?_, ⟨hgr.size, fun k h1 h2 => hgr.block k h2 (by have := hG0.out.ne; simp; omega)⟩, fun h => (by cases h), rfl⟩
      show GO B w hb gs gv cs cv xs us [c] [v] _ _ _ _ w'
      have hG2 := hG.appB (w' := w') ho hgr
      simp only [Nat.reduceEqDiff, if_false, if_true, q7, q14, q16]
      exact hG2
    | 13, hi, hun, haft =>
      simp only [List.getElem?_toArray, List.getElem?_cons_zero, List.getElem?_cons_succ, Option.some.injEq] at hi
      subst hi
      have e16 : b.tmps[16]?.getD undef = .pointer (some ⟨hb, 0, none⟩) := (hold 16 (by decide)).trans ht16
      refine wp_of_value (w' := wx) (v := .pointer (some ⟨hb, 0, none⟩)) ?_ ⟨_, rfl, hG, Ext.refl _ _, fun h => (by cases h), rfl⟩
      clear hW hold hpre haft hG
      go_simp
    | 14, hi, hun, haft =>
      simp only [List.getElem?_toArray, List.getElem?_cons_zero, List.getElem?_cons_succ, Option.some.injEq] at hi
      subst hi
      have e170 : b.tmps[170]?.getD undef = .pointer (some ⟨hb, 0, none⟩) := hW 13 170 (hpre ⟨13, .data⟩ (by simp) rfl) rfl
      have e164 : b.tmps[164]?.getD undef = .slice (some ⟨gs, 0, none⟩) (xs.length + ([c] : List Nat).length) cs := hW 7 164 (hpre ⟨7, .data⟩ (by simp) rfl) rfl
      have q7 : l 7 = true := hpre ⟨7, .data⟩ (by simp) rfl
      have q12 : l 12 = true := hpre ⟨12, .chain⟩ (by simp) rfl
      have q16 : l 16 = false := haft 16 _ rfl ⟨14, .chain⟩ (by simp) rfl rfl
      change GO B w hb gs gv cs cv xs us [c] [v] (l 7) (l 12) (l 14) (l 16) wx at hG
      rw [hun, q7, q12, q16] at hG
      have hG2 := hG.stA
      have kc := hG.hd0
      have kf := hG.out.hdr.frozen 0
      simp only [List.length_append] at hG2
      refine wp_of_skip (w' := wx.setCell ⟨hb, 0, none⟩ (.slice (some ⟨gs, 0, none⟩) (xs.length + ([c] : List Nat).length) cs)) ?_ ⟨_, rfl, ?_, Ext.setCell _ _ _ _ hH.1, fun _ => rfl, rfl⟩
      · clear hW hold hpre haft hG hG2 hG0
        go_simp
      · show GO B w hb gs gv cs cv xs us [c] [v] _ _ _ _ _
        simp only [Nat.reduceEqDiff, if_false, if_true, q7, q12, q16]
        exact hG2
    | 15, hi, hun, haft =>
      simp only [List.getElem?_toArray, List.getElem?_cons_zero, List.getElem?_cons_succ, Option.some.injEq] at hi
      subst hi
      have e16 : b.tmps[16]?.getD undef = .pointer (some ⟨hb, 0, none⟩) := (hold 16 (by decide)).trans ht16
      refine wp_of_value (w' := wx) (v := .pointer (some ⟨hb, 1, none⟩)) ?_ ⟨_, rfl, hG, Ext.refl _ _, fun h => (by cases h), rfl⟩
      clear hW hold hpre haft hG
      go_simp
    | 16, hi, hun, haft =>
      simp only [List.getElem?_toArray, List.getElem?_cons_zero, List.getElem?_cons_succ, Option.some.injEq] at hi
      subst hi
      have e171 : b.tmps[171]?.getD undef = .pointer (some ⟨hb, 1, none⟩) := hW 15 171 (hpre ⟨15, .data⟩ (by simp) rfl) rfl
      have e169 : b.tmps[169]?.getD undef = .slice (some ⟨gv, 0, none⟩) (us.length + ([v] : List Nat).length) cv := hW 12 169 (hpre ⟨12, .data⟩ (by simp) rfl) rfl
      have q7 : l 7 = true := hpre ⟨7, .phase⟩ (by simp) rfl
      have q12 : l 12 = true := hpre ⟨12, .data⟩ (by simp) rfl
      have q14 : l 14 = true := hpre ⟨14, .chain⟩ (by simp) rfl
      change GO B w hb gs gv cs cv xs us [c] [v] (l 7) (l 12) (l 14) (l 16) wx at hG
      rw [hun, q7, q12, q14] at hG
      have hG2 := hG.stB
      have kc := hG.hd1
      have kf := hG.out.hdr.frozen 1
      simp only [List.length_append] at hG2
      refine wp_of_skip (w' := wx.setCell ⟨hb, 1, none⟩ (.slice (some ⟨gv, 0, none⟩) (us.length + ([v] : List Nat).length) cv)) ?_ ⟨_, rfl, ?_, Ext.setCell _ _ _ _ hH.1, fun _ => rfl, rfl⟩
      · clear hW hold hpre haft hG hG2 hG0
        go_simp
      · show GO B w hb gs gv cs cv xs us [c] [v] _ _ _ _ _
        simp only [Nat.reduceEqDiff, if_false, if_true, q7, q12, q14]
        exact hG2
    | _ + 17, hi, _, _ => simp at hi
  · intro b wx l hsz' hds' hall hW hold hG
    change GO B w hb gs gv cs cv xs us [c] [v] (l 7) (l 12) (l 14) (l 16) wx at hG
    rw [hall 7 (by decide), hall 12 (by decide), hall 14 (by decide), hall 16 (by decide)] at hG
    exact hend b wx hsz' hds' (fun t ht => hold t (fun hm => by
      have hm' : t ∈ [157, 158, 159, 160, 161, 162, 163, 164, 165, 166, 167, 168, 169, 170, 171] := hm
      simp at hm'; omega)) hG.out hG.keeps
end Go.Proofs.Ybulkbnbu.Kn
