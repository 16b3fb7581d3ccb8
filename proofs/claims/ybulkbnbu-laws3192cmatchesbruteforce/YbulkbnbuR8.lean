/-
  Region of the staircase's 'add' (function 30) that draws its order: both slices of the new staircase grow.
-/
import Derived.Test.YbulkbnbuOut
namespace Go.Proofs.Ybulkbnbu.Kn
set_option linter.unusedSimpArgs false
set_option linter.unusedVariables false
open Go.ChangeShapes Go.WideShapes Go.ChangeAt Go.RowKit
open Go.Proofs.Ybulkbnbu.Fl

set_option maxRecDepth 100000 in
set_option maxHeartbeats 4000000 in
theorem r8 {Q : Exit → Act → World → Prop} (B hb gs gv cs cv : Nat) (xs us : List Nat) (nx nu : List Nat) (sz vz L cS cV p : Nat) (f : Act) (w : World) (hO : Out B w hb gs gv cs cv xs.length us.length xs us) (hpL : p ≤ L) (hL1 : L ≤ cS) (hL2 : L ≤ cV) (hp00 : 0 < p) (hlen3 : nx.length = p) (hlen26 : nu.length = p) (hc3 : ∀ (j : Nat) u, (ints nx)[j]? = some u → w.cell? ⟨sz, j, none⟩ = some u) (hc26 : ∀ (j : Nat) u, (flts nu)[j]? = some u → w.cell? ⟨vz, j, none⟩ = some u) (hd3 : ¬ (sz = hb ∨ sz = gs ∨ sz = gv)) (hd26 : ¬ (vz = hb ∨ vz = gs ∨ vz = gv))
    (hroomA : xs.length + (nx : List Nat).length ≤ cs) (hroomB : us.length + (nu : List Nat).length ≤ cv) (hsz : f.tmps.size = 285) (hds : f.defers = []) (ht16 : f.tmps[16]?.getD undef = .pointer (some ⟨hb, 0, none⟩)) (ht12 : f.tmps[12]?.getD undef = .slice (some ⟨sz, 0, none⟩) L cS) (ht13 : f.tmps[13]?.getD undef = .slice (some ⟨vz, 0, none⟩) L cV) (ht17 : f.tmps[17]?.getD undef = .int .i64 (p : Int))
    (hend : ∀ f' w', f'.tmps.size = 285 → f'.defers = [] → (∀ t, t < 26 → f'.tmps[t]?.getD undef = f.tmps[t]?.getD undef) → Out B w' hb gs gv cs cv (xs ++ nx).length (us ++ nu).length (xs ++ nx) (us ++ nu) → Keeps (fun k => k = hb ∨ k = gs ∨ k = gv) w w' → Q .normal f' w') :
    Code.wp Yba.prog ((Yba.f30.body.bind (reg 8)).getD .skip) Q f w := by
  conv => arg 2; whnf
  have hne := hO.ne
  have hH : hb < w.heap.size ∧ gs < w.heap.size ∧ gv < w.heap.size := ⟨hne.2.2.2.1, hne.2.2.2.2.1, hne.2.2.2.2.2⟩
  have hp0 : (0 : Int) ≤ (p : Int) := by omega
  have hp1 : (p : Int) ≤ (cS : Int) := by omega
  have hp2 : (p : Int) ≤ (cV : Int) := by omega
  have hpn : (p : Int).toNat = p := by omega
  let GG : (Nat → Bool) → World → Prop := fun l wx => GO B w hb gs gv cs cv xs us nx nu (l 5) (l 11) (l 13) (l 15) wx
  refine ops_law (N := 285) f w (by kernel_rfl) hsz hds (WW (fun i => match i with
    | 0 => .pointer (some ⟨hb, 0, none⟩)
    | 1 => .slice (some ⟨gs, 0, none⟩) (xs.length) cs
    | 2 => .slice (some ⟨sz, 0, none⟩) L cS
    | 3 => .int .i64 (p : Int)
    | 4 => .slice (some ⟨sz, 0, none⟩) p cS
    | 5 => .slice (some ⟨gs, 0, none⟩) (xs.length + (nx : List Nat).length) cs
    | 6 => .pointer (some ⟨hb, 1, none⟩)
    | 7 => .slice (some ⟨gv, 0, none⟩) (us.length) cv
    | 8 => .slice (some ⟨vz, 0, none⟩) L cV
    | 9 => .int .i64 (p : Int)
    | 10 => .slice (some ⟨vz, 0, none⟩) p cV
    | 11 => .slice (some ⟨gv, 0, none⟩) (us.length + (nu : List Nat).length) cv
    | 12 => .pointer (some ⟨hb, 0, none⟩)
    | 13 => undef
    | 14 => .pointer (some ⟨hb, 1, none⟩)
    | 15 => undef
    | _ => undef) (fun i => match i with
    | _ => none) w.heap.size) GG w.heap.size (WW_ext _ _ _) ⟨hO.drew, (Keeps.refl _ _).drew⟩ ?_ ?_
  · intro i o hi l b wx hun haft hpre hW hold hG
    have hG0 : GG l wx := hG
    change GO B w hb gs gv cs cv xs us nx nu (l 5) (l 11) (l 13) (l 15) wx at hG0
    match i, hi, hun, haft with
    | 0, hi, hun, haft =>
      simp only [List.getElem?_toArray, List.getElem?_cons_zero, List.getElem?_cons_succ, Option.some.injEq] at hi
      subst hi
      have e16 : b.tmps[16]?.getD undef = .pointer (some ⟨hb, 0, none⟩) := (hold 16 (by decide)).trans ht16
      refine wp_of_value (w' := wx) (v := .pointer (some ⟨hb, 0, none⟩)) ?_ ⟨_, rfl, hG, Ext.refl _ _, fun h => (by cases h), rfl⟩
      clear hW hold hpre haft hG
      go_simp
    | 1, hi, hun, haft =>
      simp only [List.getElem?_toArray, List.getElem?_cons_zero, List.getElem?_cons_succ, Option.some.injEq] at hi
      subst hi
      have e78 : b.tmps[78]?.getD undef = .pointer (some ⟨hb, 0, none⟩) := hW 0 78 (hpre ⟨0, .data⟩ (by simp) rfl) rfl
      have c11 : l 13 = false := haft 13 _ rfl ⟨1, .phase⟩ (by simp) rfl rfl
      rw [show GG l wx = GO B w hb gs gv cs cv xs us nx nu (l 5) (l 11) (l 13) (l 15) wx from rfl, c11] at hG
      have k0 := hG.hd0
      refine wp_of_value (w' := wx) (v := .slice (some ⟨gs, 0, none⟩) (xs.length) cs) ?_ ⟨_, rfl, (by show GO B w hb gs gv cs cv xs us nx nu (l 5) (l 11) (l 13) (l 15) wx; rw [c11]; exact hG), Ext.refl _ _, fun h => (by cases h), rfl⟩
      clear hW hold hpre haft hG
      go_simp
    | 2, hi, hun, haft =>
      simp only [List.getElem?_toArray, List.getElem?_cons_zero, List.getElem?_cons_succ, Option.some.injEq] at hi
      subst hi
      have e12 : b.tmps[12]?.getD undef = .slice (some ⟨sz, 0, none⟩) L cS := (hold 12 (by decide)).trans ht12
      refine wp_of_value (w' := wx) (v := .slice (some ⟨sz, 0, none⟩) L cS) ?_ ⟨_, rfl, hG, Ext.refl _ _, fun h => (by cases h), rfl⟩
      clear hW hold hpre haft hG
      go_simp
    | 3, hi, hun, haft =>
      simp only [List.getElem?_toArray, List.getElem?_cons_zero, List.getElem?_cons_succ, Option.some.injEq] at hi
      subst hi
      have e17 : b.tmps[17]?.getD undef = .int .i64 (p : Int) := (hold 17 (by decide)).trans ht17
      refine wp_of_value (w' := wx) (v := .int .i64 (p : Int)) ?_ ⟨_, rfl, hG, Ext.refl _ _, fun h => (by cases h), rfl⟩
      clear hW hold hpre haft hG
      go_simp
    | 4, hi, hun, haft =>
      simp only [List.getElem?_toArray, List.getElem?_cons_zero, List.getElem?_cons_succ, Option.some.injEq] at hi
      subst hi
      have e80 : b.tmps[80]?.getD undef = .slice (some ⟨sz, 0, none⟩) L cS := hW 2 80 (hpre ⟨2, .data⟩ (by simp) rfl) rfl
      have e81 : b.tmps[81]?.getD undef = .int .i64 (p : Int) := hW 3 81 (hpre ⟨3, .data⟩ (by simp) rfl) rfl
      refine wp_of_value (w' := wx) (v := .slice (some ⟨sz, 0, none⟩) p cS) ?_ ⟨_, rfl, hG, Ext.refl _ _, fun h => (by cases h), rfl⟩
      clear hW hold hpre haft hG
      go_simp
    | 5, hi, hun, haft =>
      simp only [List.getElem?_toArray, List.getElem?_cons_zero, List.getElem?_cons_succ, Option.some.injEq] at hi
      subst hi
      have e79 : b.tmps[79]?.getD undef = .slice (some ⟨gs, 0, none⟩) (xs.length) cs := hW 1 79 (hpre ⟨1, .data⟩ (by simp) rfl) rfl
      have e82 : b.tmps[82]?.getD undef = .slice (some ⟨sz, 0, none⟩) p cS := hW 4 82 (hpre ⟨4, .data⟩ (by simp) rfl) rfl
      have q11 : l 11 = false := haft 11 _ rfl ⟨5, .chain⟩ (by simp) rfl rfl
      have q13 : l 13 = false := haft 13 _ rfl ⟨5, .data⟩ (by simp) rfl rfl
      have q15 : l 15 = false := haft 15 _ rfl ⟨5, .phase⟩ (by simp) rfl rfl
      change GO B w hb gs gv cs cv xs us nx nu (l 5) (l 11) (l 13) (l 15) wx at hG
      rw [hun, q11, q13, q15] at hG
      obtain ⟨i0, hi0, hz0, hz1, hz2⟩ := info_parts info3
      refine wp_fits (w := wx) (.tmp 79) (.tmp 82) 29 3 rfl B 1 i0 Yba.underlying29 hi0 hz1 gs xs.length cs _ (by simpa [Act.eval] using e79) hG.out.rs ⟨sz, 0, none⟩ p cS (ints nx) (by simpa [Act.eval] using e82) (by simpa [ints, flts] using hlen3) (fun j u hj => by
        have := hG0.keeps.cell (hc3 j u hj) hd3
        by_cases e0 : j = 0
        · subst e0; simpa [Addr.add] using this
        · simpa [Addr.add, e0] using this) (ints_one _) (by rw [← hlen3]; exact hroomA) ?_
      rw [← hlen3]
      intro w' ho hgr
      have hgl := hG.out.ne
      refine ⟨_, rfl, ?_, ⟨hgr.size, fun k h1 h2 => hgr.block k h2 (by have := hG0.out.ne; simp; omega)⟩, fun h => (by cases h), rfl⟩
      show GO B w hb gs gv cs cv xs us nx nu _ _ _ _ w'
      have hG2 := hG.appA (w' := w') ho hgr
      simp only [Nat.reduceEqDiff, if_false, if_true, q11, q13, q15]
      exact hG2
    | 6, hi, hun, haft =>
      simp only [List.getElem?_toArray, List.getElem?_cons_zero, List.getElem?_cons_succ, Option.some.injEq] at hi
      subst hi
      have e16 : b.tmps[16]?.getD undef = .pointer (some ⟨hb, 0, none⟩) := (hold 16 (by decide)).trans ht16
      refine wp_of_value (w' := wx) (v := .pointer (some ⟨hb, 1, none⟩)) ?_ ⟨_, rfl, hG, Ext.refl _ _, fun h => (by cases h), rfl⟩
      clear hW hold hpre haft hG
      go_simp
    | 7, hi, hun, haft =>
      simp only [List.getElem?_toArray, List.getElem?_cons_zero, List.getElem?_cons_succ, Option.some.injEq] at hi
      subst hi
      have e84 : b.tmps[84]?.getD undef = .pointer (some ⟨hb, 1, none⟩) := hW 6 84 (hpre ⟨6, .data⟩ (by simp) rfl) rfl
      have c13 : l 15 = false := haft 15 _ rfl ⟨7, .phase⟩ (by simp) rfl rfl
      rw [show GG l wx = GO B w hb gs gv cs cv xs us nx nu (l 5) (l 11) (l 13) (l 15) wx from rfl, c13] at hG
      have k1 := hG.hd1
      refine wp_of_value (w' := wx) (v := .slice (some ⟨gv, 0, none⟩) (us.length) cv) ?_ ⟨_, rfl, (by show GO B w hb gs gv cs cv xs us nx nu (l 5) (l 11) (l 13) (l 15) wx; rw [c13]; exact hG), Ext.refl _ _, fun h => (by cases h), rfl⟩
      clear hW hold hpre haft hG
      go_simp
    | 8, hi, hun, haft =>
      simp only [List.getElem?_toArray, List.getElem?_cons_zero, List.getElem?_cons_succ, Option.some.injEq] at hi
      subst hi
      have e13 : b.tmps[13]?.getD undef = .slice (some ⟨vz, 0, none⟩) L cV := (hold 13 (by decide)).trans ht13
      refine wp_of_value (w' := wx) (v := .slice (some ⟨vz, 0, none⟩) L cV) ?_ ⟨_, rfl, hG, Ext.refl _ _, fun h => (by cases h), rfl⟩
      clear hW hold hpre haft hG
      go_simp
    | 9, hi, hun, haft =>
      simp only [List.getElem?_toArray, List.getElem?_cons_zero, List.getElem?_cons_succ, Option.some.injEq] at hi
      subst hi
      have e17 : b.tmps[17]?.getD undef = .int .i64 (p : Int) := (hold 17 (by decide)).trans ht17
      refine wp_of_value (w' := wx) (v := .int .i64 (p : Int)) ?_ ⟨_, rfl, hG, Ext.refl _ _, fun h => (by cases h), rfl⟩
      clear hW hold hpre haft hG
      go_simp
    | 10, hi, hun, haft =>
      simp only [List.getElem?_toArray, List.getElem?_cons_zero, List.getElem?_cons_succ, Option.some.injEq] at hi
      subst hi
      have e86 : b.tmps[86]?.getD undef = .slice (some ⟨vz, 0, none⟩) L cV := hW 8 86 (hpre ⟨8, .data⟩ (by simp) rfl) rfl
      have e87 : b.tmps[87]?.getD undef = .int .i64 (p : Int) := hW 9 87 (hpre ⟨9, .data⟩ (by simp) rfl) rfl
      refine wp_of_value (w' := wx) (v := .slice (some ⟨vz, 0, none⟩) p cV) ?_ ⟨_, rfl, hG, Ext.refl _ _, fun h => (by cases h), rfl⟩
      clear hW hold hpre haft hG
      go_simp
    | 11, hi, hun, haft =>
      simp only [List.getElem?_toArray, List.getElem?_cons_zero, List.getElem?_cons_succ, Option.some.injEq] at hi
      subst hi
      have e85 : b.tmps[85]?.getD undef = .slice (some ⟨gv, 0, none⟩) (us.length) cv := hW 7 85 (hpre ⟨7, .data⟩ (by simp) rfl) rfl
      have e88 : b.tmps[88]?.getD undef = .slice (some ⟨vz, 0, none⟩) p cV := hW 10 88 (hpre ⟨10, .data⟩ (by simp) rfl) rfl
      have q5 : l 5 = true := hpre ⟨5, .chain⟩ (by simp) rfl
      have q13 : l 13 = false := haft 13 _ rfl ⟨11, .chain⟩ (by simp) rfl rfl
      have q15 : l 15 = false := haft 15 _ rfl ⟨11, .data⟩ (by simp) rfl rfl
      change GO B w hb gs gv cs cv xs us nx nu (l 5) (l 11) (l 13) (l 15) wx at hG
      rw [hun, q5, q13, q15] at hG
      obtain ⟨i0, hi0, hz0, hz1, hz2⟩ := info_parts info26
      refine wp_fits (w := wx) (.tmp 85) (.tmp 88) 54 26 rfl B 1 i0 Yba.underlying54 hi0 hz1 gv us.length cv _ (by simpa [Act.eval] using e85) hG.out.rv ⟨vz, 0, none⟩ p cV (flts nu) (by simpa [Act.eval] using e88) (by simpa [ints, flts] using hlen26) (fun j u hj => by
        have := hG0.keeps.cell (hc26 j u hj) hd26
        by_cases e0 : j = 0
        · subst e0; simpa [Addr.add] using this
        · simpa [Addr.add, e0] using this) (flts_one _) (by rw [← hlen26]; exact hroomB) ?_
      rw [← hlen26]
      intro w' ho hgr
      have hgl := hG.out.ne
      refine ⟨_, rfl, ?_, ⟨hgr.size, fun k h1 h2 => hgr.block k h2 (by have := hG0.out.ne; simp; omega)⟩, fun h => (by cases h), rfl⟩
      show GO B w hb gs gv cs cv xs us nx nu _ _ _ _ w'
      have hG2 := hG.appB (w' := w') ho hgr
      simp only [Nat.reduceEqDiff, if_false, if_true, q5, q13, q15]
      exact hG2
    | 12, hi, hun, haft =>
      simp only [List.getElem?_toArray, List.getElem?_cons_zero, List.getElem?_cons_succ, Option.some.injEq] at hi
      subst hi
      have e16 : b.tmps[16]?.getD undef = .pointer (some ⟨hb, 0, none⟩) := (hold 16 (by decide)).trans ht16
      refine wp_of_value (w' := wx) (v := .pointer (some ⟨hb, 0, none⟩)) ?_ ⟨_, rfl, hG, Ext.refl _ _, fun h => (by cases h), rfl⟩
      clear hW hold hpre haft hG
      go_simp
    | 13, hi, hun, haft =>
      simp only [List.getElem?_toArray, List.getElem?_cons_zero, List.getElem?_cons_succ, Option.some.injEq] at hi
      subst hi
      have e90 : b.tmps[90]?.getD undef = .pointer (some ⟨hb, 0, none⟩) := hW 12 90 (hpre ⟨12, .data⟩ (by simp) rfl) rfl
      have e83 : b.tmps[83]?.getD undef = .slice (some ⟨gs, 0, none⟩) (xs.length + (nx : List Nat).length) cs := hW 5 83 (hpre ⟨5, .data⟩ (by simp) rfl) rfl
      have q5 : l 5 = true := hpre ⟨5, .data⟩ (by simp) rfl
      have q11 : l 11 = true := hpre ⟨11, .chain⟩ (by simp) rfl
      have q15 : l 15 = false := haft 15 _ rfl ⟨13, .chain⟩ (by simp) rfl rfl
      change GO B w hb gs gv cs cv xs us nx nu (l 5) (l 11) (l 13) (l 15) wx at hG
      rw [hun, q5, q11, q15] at hG
      have hG2 := hG.stA
      have kc := hG.hd0
      have kf := hG.out.hdr.frozen 0
      simp only [List.length_append] at hG2
      refine wp_of_skip (w' := wx.setCell ⟨hb, 0, none⟩ (.slice (some ⟨gs, 0, none⟩) (xs.length + (nx : List Nat).length) cs)) ?_ ⟨_, rfl, ?_, Ext.setCell _ _ _ _ hH.1, fun _ => rfl, rfl⟩
      · clear hW hold hpre haft hG hG2 hG0
        go_simp
      · show GO B w hb gs gv cs cv xs us nx nu _ _ _ _ _
        simp only [Nat.reduceEqDiff, if_false, if_true, q5, q11, q15]
        exact hG2
    | 14, hi, hun, haft =>
      simp only [List.getElem?_toArray, List.getElem?_cons_zero, List.getElem?_cons_succ, Option.some.injEq] at hi
      subst hi
      have e16 : b.tmps[16]?.getD undef = .pointer (some ⟨hb, 0, none⟩) := (hold 16 (by decide)).trans ht16
      refine wp_of_value (w' := wx) (v := .pointer (some ⟨hb, 1, none⟩)) ?_ ⟨_, rfl, hG, Ext.refl _ _, fun h => (by cases h), rfl⟩
      clear hW hold hpre haft hG
      go_simp
    | 15, hi, hun, haft =>
      simp only [List.getElem?_toArray, List.getElem?_cons_zero, List.getElem?_cons_succ, Option.some.injEq] at hi
      subst hi
      have e91 : b.tmps[91]?.getD undef = .pointer (some ⟨hb, 1, none⟩) := hW 14 91 (hpre ⟨14, .data⟩ (by simp) rfl) rfl
      have e89 : b.tmps[89]?.getD undef = .slice (some ⟨gv, 0, none⟩) (us.length + (nu : List Nat).length) cv := hW 11 89 (hpre ⟨11, .data⟩ (by simp) rfl) rfl
      have q5 : l 5 = true := hpre ⟨5, .phase⟩ (by simp) rfl
      have q11 : l 11 = true := hpre ⟨11, .data⟩ (by simp) rfl
      have q13 : l 13 = true := hpre ⟨13, .chain⟩ (by simp) rfl
      change GO B w hb gs gv cs cv xs us nx nu (l 5) (l 11) (l 13) (l 15) wx at hG
      rw [hun, q5, q11, q13] at hG
      have hG2 := hG.stB
      have kc := hG.hd1
      have kf := hG.out.hdr.frozen 1
      simp only [List.length_append] at hG2
      refine wp_of_skip (w' := wx.setCell ⟨hb, 1, none⟩ (.slice (some ⟨gv, 0, none⟩) (us.length + (nu : List Nat).length) cv)) ?_ ⟨_, rfl, ?_, Ext.setCell _ _ _ _ hH.1, fun _ => rfl, rfl⟩
      · clear hW hold hpre haft hG hG2 hG0
        go_simp
      · show GO B w hb gs gv cs cv xs us nx nu _ _ _ _ _
        simp only [Nat.reduceEqDiff, if_false, if_true, q5, q11, q13]
        exact hG2
    | _ + 16, hi, _, _ => simp at hi
  · intro b wx l hsz' hds' hall hW hold hG
    change GO B w hb gs gv cs cv xs us nx nu (l 5) (l 11) (l 13) (l 15) wx at hG
    rw [hall 5 (by decide), hall 11 (by decide), hall 13 (by decide), hall 15 (by decide)] at hG
    exact hend b wx hsz' hds' (fun t ht => hold t (fun hm => by
      have hm' : t ∈ [78, 79, 80, 81, 82, 83, 84, 85, 86, 87, 88, 89, 90, 91] := hm
      simp at hm'; omega)) hG.out hG.keeps
end Go.Proofs.Ybulkbnbu.Kn
