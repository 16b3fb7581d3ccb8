/-
  Region of the staircase's 'add' (function 30) that draws its order: both slices of the new staircase grow.
-/
import Derived.Test.YbulkbnbuOut
namespace Go.Proofs.Ybulkbnbu.Kn
set_option linter.unusedSimpArgs false
set_option linter.unusedVariables false
open Go.ChangeShapes Go.WideShapes Go.ChangeAt Go.RowKit
open Go.Proofs.Ybulkbnbu.Fl

set_option maxRecDepth 100000 in
set_option maxHeartbeats 4000000 in
theorem r46 {Q : Exit → Act → World → Prop} (B hb gs gv cs cv : Nat) (xs us : List Nat) (sz vz L cS cV : Nat) (f : Act) (w : World) (hO : Out B w hb gs gv cs cv xs.length us.length xs us) (hL1 : L ≤ cS) (hL2 : L ≤ cV)
    (hroomA : xs.length + ([] : List Nat).length ≤ cs) (hroomB : us.length + ([] : List Nat).length ≤ cv) (hsz : f.tmps.size = 285) (hds : f.defers = []) (ht16 : f.tmps[16]?.getD undef = .pointer (some ⟨hb, 0, none⟩)) (ht12 : f.tmps[12]?.getD undef = .slice (some ⟨sz, 0, none⟩) L cS) (ht13 : f.tmps[13]?.getD undef = .slice (some ⟨vz, 0, none⟩) L cV) (ht17 : f.tmps[17]?.getD undef = .int .i64 (L : Int))
    (hend : ∀ f' w', f'.tmps.size = 285 → f'.defers = [] → (∀ t, t < 26 → f'.tmps[t]?.getD undef = f.tmps[t]?.getD undef) → Out B w' hb gs gv cs cv (xs ++ []).length (us ++ []).length (xs ++ []) (us ++ []) → Keeps (fun k => k = hb ∨ k = gs ∨ k = gv) w w' → Q .normal f' w') :
    Code.wp Yba.prog ((Yba.f30.body.bind (reg 46)).getD .skip) Q f w := by
  conv => arg 2; whnf
  have hne := hO.ne
  have hH : hb < w.heap.size ∧ gs < w.heap.size ∧ gv < w.heap.size := ⟨hne.2.2.2.1, hne.2.2.2.2.1, hne.2.2.2.2.2⟩
  have hp0 : (0 : Int) ≤ (L : Int) := by omega
  have hp1 : (L : Int) ≤ (cS : Int) := by omega
  have hp2 : (L : Int) ≤ (cV : Int) := by omega
  have hpn : (L : Int).toNat = L := by omega
  let GG : (Nat → Bool) → World → Prop := fun l wx => GO B w hb gs gv cs cv xs us [] [] (l 5) (l 11) (l 13) (l 15) wx
  refine ops_law (N := 285) f w (by kernel_rfl) hsz hds (WW (fun i => match i with
    | 0 => .pointer (some ⟨hb, 0, none⟩)
    | 1 => .slice (some ⟨gs, 0, none⟩) (xs.length) cs
    | 2 => .slice (some ⟨sz, 0, none⟩) L cS
    | 3 => .int .i64 (L : Int)
    | 4 => .slice (some (if cS = L then ⟨sz, 0, none⟩ else ⟨sz, L, none⟩)) 0 (cS - L)
    | 5 => .slice (some ⟨gs, 0, none⟩) (xs.length + ([] : List Nat).length) cs
    | 6 => .pointer (some ⟨hb, 1, none⟩)
    | 7 => .slice (some ⟨gv, 0, none⟩) (us.length) cv
    | 8 => .slice (some ⟨vz, 0, none⟩) L cV
    | 9 => .int .i64 (L : Int)
    | 10 => .slice (some (if cV = L then ⟨vz, 0, none⟩ else ⟨vz, L, none⟩)) 0 (cV - L)
    | 11 => .slice (some ⟨gv, 0, none⟩) (us.length + ([] : List Nat).length) cv
    | 12 => .pointer (some ⟨hb, 0, none⟩)
    | 13 => undef
    | 14 => .pointer (some ⟨hb, 1, none⟩)
    | 15 => undef
    | _ => undef) (fun i => match i with
    | _ => none) w.heap.size) GG w.heap.size (WW_ext _ _ _) ⟨hO.drew, (Keeps.refl _ _).drew⟩ ?_ ?_
  · intro i o hi l b wx hun haft hpre hW hold hG
    have hG0 : GG l wx := hG
    change GO B w hb gs gv cs cv xs us [] [] (l 5) (l 11) (l 13) (l 15) wx at hG0
    match i, hi, hun, haft with
    | 0, hi, hun, haft =>
      simp only [List.getElem?_toArray, List.getElem?_cons_zero, List.getElem?_cons_succ, Option.some.injEq] at hi
      subst hi
      have e16 : b.tmps[16]?.getD undef = .pointer (some ⟨hb, 0, none⟩) := (hold 16 (by decide)).trans ht16
      refine wp_of_value (w' := wx) (v := .pointer (some ⟨hb, 0, none⟩)) ?_ ⟨_, rfl, hG, Ext.refl _ _, fun h => (by cases h), rfl⟩
      clear hW hold hpre haft hG
      go_simp
    | 1, hi, hun, haft =>
      simp only [List.getElem?_toArray, List.getElem?_cons_zero, List.getElem?_cons_succ, Option.some.injEq] at hi
      subst hi
      have e269 : b.tmps[269]?.getD undef = .pointer (some ⟨hb, 0, none⟩) := hW 0 269 (hpre ⟨0, .data⟩ (by simp) rfl) rfl
      have c11 : l 13 = false := haft 13 _ rfl ⟨1, .phase⟩ (by simp) rfl rfl
      rw [show GG l wx = GO B w hb gs gv cs cv xs us [] [] (l 5) (l 11) (l 13) (l 15) wx from rfl, c11] at hG
      have k0 := hG.hd0
      refine wp_of_value (w' := wx) (v := .slice (some ⟨gs, 0, none⟩) (xs.length) cs) ?_ ⟨_, rfl, (by show GO B w hb gs gv cs cv xs us [] [] (l 5) (l 11) (l 13) (l 15) wx; rw [c11]; exact hG), Ext.refl _ _, fun h => (by cases h), rfl⟩
      clear hW hold hpre haft hG
      go_simp
    | 2, hi, hun, haft =>
      simp only [List.getElem?_toArray, List.getElem?_cons_zero, List.getElem?_cons_succ, Option.some.injEq] at hi
      subst hi
      have e12 : b.tmps[12]?.getD undef = .slice (some ⟨sz, 0, none⟩) L cS := (hold 12 (by decide)).trans ht12
      refine wp_of_value (w' := wx) (v := .slice (some ⟨sz, 0, none⟩) L cS) ?_ ⟨_, rfl, hG, Ext.refl _ _, fun h => (by cases h), rfl⟩
      clear hW hold hpre haft hG
      go_simp
    | 3, hi, hun, haft =>
      simp only [List.getElem?_toArray, List.getElem?_cons_zero, List.getElem?_cons_succ, Option.some.injEq] at hi
      subst hi
      have e17 : b.tmps[17]?.getD undef = .int .i64 (L : Int) := (hold 17 (by decide)).trans ht17
      refine wp_of_value (w' := wx) (v := .int .i64 (L : Int)) ?_ ⟨_, rfl, hG, Ext.refl _ _, fun h => (by cases h), rfl⟩
      clear hW hold hpre haft hG
      go_simp
    | 4, hi, hun, haft =>
      simp only [List.getElem?_toArray, List.getElem?_cons_zero, List.getElem?_cons_succ, Option.some.injEq] at hi
      subst hi
      have e271 : b.tmps[271]?.getD undef = .slice (some ⟨sz, 0, none⟩) L cS := hW 2 271 (hpre ⟨2, .data⟩ (by simp) rfl) rfl
      have e272 : b.tmps[272]?.getD undef = .int .i64 (L : Int) := hW 3 272 (hpre ⟨3, .data⟩ (by simp) rfl) rfl
      refine wp_of_value (w' := wx) (v := .slice (some (if cS = L then ⟨sz, 0, none⟩ else ⟨sz, L, none⟩)) 0 (cS - L)) ?_ ⟨_, rfl, hG, Ext.refl _ _, fun h => (by cases h), rfl⟩
      clear hW hold hpre haft hG hG0
      go_simp
      split <;> rfl
    | 5, hi, hun, haft =>
      simp only [List.getElem?_toArray, List.getElem?_cons_zero, List.getElem?_cons_succ, Option.some.injEq] at hi
      subst hi
      have e270 : b.tmps[270]?.getD undef = .slice (some ⟨gs, 0, none⟩) (xs.length) cs := hW 1 270 (hpre ⟨1, .data⟩ (by simp) rfl) rfl
      have e273 : b.tmps[273]?.getD undef = .slice (some (if cS = L then ⟨sz, 0, none⟩ else ⟨sz, L, none⟩)) 0 (cS - L) := hW 4 273 (hpre ⟨4, .data⟩ (by simp) rfl) rfl
      have q11 : l 11 = false := haft 11 _ rfl ⟨5, .chain⟩ (by simp) rfl rfl
      have q13 : l 13 = false := haft 13 _ rfl ⟨5, .data⟩ (by simp) rfl rfl
      have q15 : l 15 = false := haft 15 _ rfl ⟨5, .phase⟩ (by simp) rfl rfl
      change GO B w hb gs gv cs cv xs us [] [] (l 5) (l 11) (l 13) (l 15) wx at hG
      rw [hun, q11, q13, q15] at hG
      obtain ⟨i0, hi0, hz0, hz1, hz2⟩ := info_parts info3
      refine wp_fits (w := wx) (.tmp 270) (.tmp 273) 29 3 rfl B 1 i0 Yba.underlying29 hi0 hz1 gs xs.length cs _ (by simpa [Act.eval] using e270) hG.out.rs (if cS = L then ⟨sz, 0, none⟩ else ⟨sz, L, none⟩) 0 (cS - L) (ints []) (by simpa [Act.eval] using e273) rfl (fun j u hj => by simp [ints, flts] at hj) (ints_one _) (by simpa using hroomA) ?_
      intro w' ho hgr
      have hgl := hG.out.ne
      refine ⟨_, rfl, ?_, ⟨hgr.size, fun k h1 h2 => hgr.block k h2 (by have := hG0.out.ne; simp; omega)⟩, fun h => (by cases h), rfl⟩
      show GO B w hb gs gv cs cv xs us [] [] _ _ _ _ w'
      have hG2 := hG.appA (w' := w') ho hgr
      simp only [Nat.reduceEqDiff, if_false, if_true, q11, q13, q15]
      exact hG2
    | 6, hi, hun, haft =>
      simp only [List.getElem?_toArray, List.getElem?_cons_zero, List.getElem?_cons_succ, Option.some.injEq] at hi
      subst hi
      have e16 : b.tmps[16]?.getD undef = .pointer (some ⟨hb, 0, none⟩) := (hold 16 (by decide)).trans ht16
      refine wp_of_value (w' := wx) (v := .pointer (some ⟨hb, 1, none⟩)) ?_ ⟨_, rfl, hG, Ext.refl _ _, fun h => (by cases h), rfl⟩
      clear hW hold hpre haft hG
      go_simp
    | 7, hi, hun, haft =>
      simp only [List.getElem?_toArray, List.getElem?_cons_zero, List.getElem?_cons_succ, Option.some.injEq] at hi
      subst hi
      have e275 : b.tmps[275]?.getD undef = .pointer (some ⟨hb, 1, none⟩) := hW 6 275 (hpre ⟨6, .data⟩ (by simp) rfl) rfl
      have c13 : l 15 = false := haft 15 _ rfl ⟨7, .phase⟩ (by simp) rfl rfl
      rw [show GG l wx = GO B w hb gs gv cs cv xs us [] [] (l 5) (l 11) (l 13) (l 15) wx from rfl, c13] at hG
      have k1 := hG.hd1
      refine wp_of_value (w' := wx) (v := .slice (some ⟨gv, 0, none⟩) (us.length) cv) ?_ ⟨_, rfl, (by show GO B w hb gs gv cs cv xs us [] [] (l 5) (l 11) (l 13) (l 15) wx; rw [c13]; exact hG), Ext.refl _ _, fun h => (by cases h), rfl⟩
      clear hW hold hpre haft hG
      go_simp
    | 8, hi, hun, haft =>
      simp only [List.getElem?_toArray, List.getElem?_cons_zero, List.getElem?_cons_succ, Option.some.injEq] at hi
      subst hi
      have e13 : b.tmps[13]?.getD undef = .slice (some ⟨vz, 0, none⟩) L cV := (hold 13 (by decide)).trans ht13
      refine wp_of_value (w' := wx) (v := .slice (some ⟨vz, 0, none⟩) L cV) ?_ ⟨_, rfl, hG, Ext.refl _ _, fun h => (by cases h), rfl⟩
      clear hW hold hpre haft hG
      go_simp
    | 9, hi, hun, haft =>
      simp only [List.getElem?_toArray, List.getElem?_cons_zero, List.getElem?_cons_succ, Option.some.injEq] at hi
      subst hi
      have e17 : b.tmps[17]?.getD undef = .int .i64 (L : Int) := (hold 17 (by decide)).trans ht17
      refine wp_of_value (w' := wx) (v := .int .i64 (L : Int)) ?_ ⟨_, rfl, hG, Ext.refl _ _, fun h => (by cases h), rfl⟩
      clear hW hold hpre haft hG
      go_simp
    | 10, hi, hun, haft =>
      simp only [List.getElem?_toArray, List.getElem?_cons_zero, List.getElem?_cons_succ, Option.some.injEq] at hi
      subst hi
      have e277 : b.tmps[277]?.getD undef = .slice (some ⟨vz, 0, none⟩) L cV := hW 8 277 (hpre ⟨8, .data⟩ (by simp) rfl) rfl
      have e278 : b.tmps[278]?.getD undef = .int .i64 (L : Int) := hW 9 278 (hpre ⟨9, .data⟩ (by simp) rfl) rfl
      refine wp_of_value (w' := wx) (v := .slice (some (if cV = L then ⟨vz, 0, none⟩ else ⟨vz, L, none⟩)) 0 (cV - L)) ?_ ⟨_, rfl, hG, Ext.refl _ _, fun h => (by cases h), rfl⟩
      clear hW hold hpre haft hG hG0
      go_simp
      split <;> rfl
    | 11, hi, hun, haft =>
      simp only [List.getElem?_toArray, List.getElem?_cons_zero, List.getElem?_cons_succ, Option.some.injEq] at hi
      subst hi
      have e276 : b.tmps[276]?.getD undef = .slice (some ⟨gv, 0, none⟩) (us.length) cv := hW 7 276 (hpre ⟨7, .data⟩ (by simp) rfl) rfl
      have e279 : b.tmps[279]?.getD undef = .slice (some (if cV = L then ⟨vz, 0, none⟩ else ⟨vz, L, none⟩)) 0 (cV - L) := hW 10 279 (hpre ⟨10, .data⟩ (by simp) rfl) rfl
      have q5 : l 5 = true := hpre ⟨5, .chain⟩ (by simp) rfl
      have q13 : l 13 = false := haft 13 _ rfl ⟨11, .chain⟩ (by simp) rfl rfl
      have q15 : l 15 = false := haft 15 _ rfl ⟨11, .data⟩ (by simp) rfl rfl
      change GO B w hb gs gv cs cv xs us [] [] (l 5) (l 11) (l 13) (l 15) wx at hG
      rw [hun, q5, q13, q15] at hG
      obtain ⟨i0, hi0, hz0, hz1, hz2⟩ := info_parts info26
      refine wp_fits (w := wx) (.tmp 276) (.tmp 279) 54 26 rfl B 1 i0 Yba.underlying54 hi0 hz1 gv us.length cv _ (by simpa [Act.eval] using e276) hG.out.rv (if cV = L then ⟨vz, 0, none⟩ else ⟨vz, L, none⟩) 0 (cV - L) (flts []) (by simpa [Act.eval] using e279) rfl (fun j u hj => by simp [ints, flts] at hj) (flts_one _) (by simpa using hroomB) ?_
      intro w' ho hgr
      have hgl := hG.out.ne
      refine ⟨_, rfl, ?_, ⟨hgr.size, fun k h1 h2 => hgr.block k h2 (by have := hG0.out.ne; simp; omega)⟩, fun h => (by cases h), rfl⟩
      show GO B w hb gs gv cs cv xs us [] [] _ _ _ _ w'
      have hG2 := hG.appB (w' := w') ho hgr
      simp only [Nat.reduceEqDiff, if_false, if_true, q5, q13, q15]
      exact hG2
    | 12, hi, hun, haft =>
      simp only [List.getElem?_toArray, List.getElem?_cons_zero, List.getElem?_cons_succ, Option.some.injEq] at hi
      subst hi
      have e16 : b.tmps[16]?.getD undef = .pointer (some ⟨hb, 0, none⟩) := (hold 16 (by decide)).trans ht16
      refine wp_of_value (w' := wx) (v := .pointer (some ⟨hb, 0, none⟩)) ?_ ⟨_, rfl, hG, Ext.refl _ _, fun h => (by cases h), rfl⟩
      clear hW hold hpre haft hG
      go_simp
    | 13, hi, hun, haft =>
      simp only [List.getElem?_toArray, List.getElem?_cons_zero, List.getElem?_cons_succ, Option.some.injEq] at hi
      subst hi
      have e281 : b.tmps[281]?.getD undef = .pointer (some ⟨hb, 0, none⟩) := hW 12 281 (hpre ⟨12, .data⟩ (by simp) rfl) rfl
      have e274 : b.tmps[274]?.getD undef = .slice (some ⟨gs, 0, none⟩) (xs.length + ([] : List Nat).length) cs := hW 5 274 (hpre ⟨5, .data⟩ (by simp) rfl) rfl
      have q5 : l 5 = true := hpre ⟨5, .data⟩ (by simp) rfl
      have q11 : l 11 = true := hpre ⟨11, .chain⟩ (by simp) rfl
      have q15 : l 15 = false := haft 15 _ rfl ⟨13, .chain⟩ (by simp) rfl rfl
      change GO B w hb gs gv cs cv xs us [] [] (l 5) (l 11) (l 13) (l 15) wx at hG
      rw [hun, q5, q11, q15] at hG
      have hG2 := hG.stA
      have kc := hG.hd0
      have kf := hG.out.hdr.frozen 0
      simp only [List.length_append] at hG2
      refine wp_of_skip (w' := wx.setCell ⟨hb, 0, none⟩ (.slice (some ⟨gs, 0, none⟩) (xs.length + ([] : List Nat).length) cs)) ?_ ⟨_, rfl, ?_, Ext.setCell _ _ _ _ hH.1, fun _ => rfl, rfl⟩
      · clear hW hold hpre haft hG hG2 hG0
        go_simp
      · show GO B w hb gs gv cs cv xs us [] [] _ _ _ _ _
        simp only [Nat.reduceEqDiff, if_false, if_true, q5, q11, q15]
        exact hG2
    | 14, hi, hun, haft =>
      simp only [List.getElem?_toArray, List.getElem?_cons_zero, List.getElem?_cons_succ, Option.some.injEq] at hi
      subst hi
      have e16 : b.tmps[16]?.getD undef = .pointer (some ⟨hb, 0, none⟩) := (hold 16 (by decide)).trans ht16
      refine wp_of_value (w' := wx) (v := .pointer (some ⟨hb, 1, none⟩)) ?_ ⟨_, rfl, hG, Ext.refl _ _, fun h => (by cases h), rfl⟩
      clear hW hold hpre haft hG
      go_simp
    | 15, hi, hun, haft =>
      simp only [List.getElem?_toArray, List.getElem?_cons_zero, List.getElem?_cons_succ, Option.some.injEq] at hi
      subst hi
      have e282 : b.tmps[282]?.getD undef = .pointer (some ⟨hb, 1, none⟩) := hW 14 282 (hpre ⟨14, .data⟩ (by simp) rfl) rfl
      have e280 : b.tmps[280]?.getD undef = .slice (some ⟨gv, 0, none⟩) (us.length + ([] : List Nat).length) cv := hW 11 280 (hpre ⟨11, .data⟩ (by simp) rfl) rfl
      have q5 : l 5 = true := hpre ⟨5, .phase⟩ (by simp) rfl
      have q11 : l 11 = true := hpre ⟨11, .data⟩ (by simp) rfl
      have q13 : l 13 = true := hpre ⟨13, .chain⟩ (by simp) rfl
      change GO B w hb gs gv cs cv xs us [] [] (l 5) (l 11) (l 13) (l 15) wx at hG
      rw [hun, q5, q11, q13] at hG
      have hG2 := hG.stB
      have kc := hG.hd1
      have kf := hG.out.hdr.frozen 1
      simp only [List.length_append] at hG2
      refine wp_of_skip (w' := wx.setCell ⟨hb, 1, none⟩ (.slice (some ⟨gv, 0, none⟩) (us.length + ([] : List Nat).length) cv)) ?_ ⟨_, rfl, ?_, Ext.setCell _ _ _ _ hH.1, fun _ => rfl, rfl⟩
      · clear hW hold hpre haft hG hG2 hG0
        go_simp
      · show GO B w hb gs gv cs cv xs us [] [] _ _ _ _ _
        simp only [Nat.reduceEqDiff, if_false, if_true, q5, q11, q13]
        exact hG2
    | _ + 16, hi, _, _ => simp at hi
  · intro b wx l hsz' hds' hall hW hold hG
    change GO B w hb gs gv cs cv xs us [] [] (l 5) (l 11) (l 13) (l 15) wx at hG
    rw [hall 5 (by decide), hall 11 (by decide), hall 13 (by decide), hall 15 (by decide)] at hG
    exact hend b wx hsz' hds' (fun t ht => hold t (fun hm => by
      have hm' : t ∈ [269, 270, 271, 272, 273, 274, 275, 276, 277, 278, 279, 280, 281, 282] := hm
      simp at hm'; omega)) hG.out hG.keeps
end Go.Proofs.Ybulkbnbu.Kn
