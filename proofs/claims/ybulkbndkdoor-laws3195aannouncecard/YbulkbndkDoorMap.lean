/-
  'as.asps[asps[j]] = ..' in a region that draws its order.
-/
import Derived.Test.YbulkbndkDoorReg3
namespace Go.Proofs.YbulkbndkDoor.Pr
set_option linter.unusedSimpArgs false
set_option linter.unusedVariables false
open Go.ChangeShapes Go.WideShapes Go.ChangeAt Go.RowKit

open Any in
/-- THE LAW OF THE SHAPE: one last operation writes; all others only read. -/
theorem last_shape {Q : Exit → Act → World → Prop} {ops : Array Oper} {N rid : Nat} (f : Act) (w wf : World) (hp : Plain .any ops N = true) (V : Nat → Value) (is : Nat) {os_ : Oper} (hos : ops[is]? = some os_) (hosd : os_.dst = none)
    (hall : ∀ i, i < ops.size → i ≠ is → ⟨i, .phase⟩ ∈ os_.after) (hsz : f.tmps.size = N) (hds : f.defers = []) (hdst : ∀ i o, ops[i]? = some o → i ≠ is → o.dst ≠ none)
    (hquiet : ∀ i o, ops[i]? = some o → i ≠ is → ∀ (b : Act) (K : Act → World → Prop), (∀ j d, (⟨j, .data⟩ : Edge) ∈ o.after → j ≠ is → (ops[j]?).bind (·.dst) = some d → b.tmps[d]?.getD undef = V j) →
      (∀ t, t ∉ ops.toList.filterMap (·.dst) → b.tmps[t]?.getD undef = f.tmps[t]?.getD undef) → K (b.put o.dst (V i)) w.drew → o.wp Ybad.prog b w.drew K Q)
    (hlast : ∀ (b : Act), (∀ j d, (⟨j, .data⟩ : Edge) ∈ os_.after → j ≠ is → (ops[j]?).bind (·.dst) = some d → b.tmps[d]?.getD undef = V j) → (execOp b.eval os_).run Ybad.prog w.drew = .ok .skip wf)
    (hend : ∀ f', f'.tmps.size = N → f'.defers = [] → (∀ t, t ∉ ops.toList.filterMap (·.dst) → f'.tmps[t]?.getD undef = f.tmps[t]?.getD undef) → Q .normal f' wf) :
    (Code.region rid ops true).wp Ybad.prog Q f w := by
  have hlt : ∀ i o, ops[i]? = some o → i < ops.size := fun i o h => (Array.getElem?_eq_some_iff.1 h).1
  refine wp_region_ops (Γ := Unit) (N := N) (by kernel_rfl) hp (fun i _ v _ => i = is ∨ v = V i) (fun listed _ wx => (listed[is]? = some false → wx = w.drew) ∧ (listed[is]? = some true → wx = wf)) (fun _ _ _ _ => True) () (fun _ _ _ _ _ _ _ h => h) hsz ⟨fun _ => rfl, fun h => ?_⟩ ?_ ?_
  · rw [Array.getElem?_replicate] at h
    split at h <;> simp at h
  · intro i o hi listed γ b wx hcl hls hun hpre hR hG
    have hset : ∀ j : Nat, j ≠ i → (listed.setIfInBounds i true)[j]? = listed[j]? := fun j hj => Array.getElem?_setIfInBounds_ne (Ne.symm hj)
    have hself : (listed.setIfInBounds i true)[i]? = some true := Array.getElem?_setIfInBounds_self_of_lt (by rw [hls]; exact hlt i o hi)
    have hdat : ∀ j d, (⟨j, .data⟩ : Edge) ∈ o.after → j ≠ is → (ops[j]?).bind (·.dst) = some d → b.tmps[d]?.getD undef = V j := fun j d he h3 hd => by
      rcases hR.at hd (hpre ⟨j, .data⟩ he rfl) with h | h
      · exact absurd h h3
      · exact h
    by_cases his : i = is
    · subst his
      obtain rfl : o = os_ := Option.some.inj (hi.symm.trans hos)
      obtain rfl := hG.1 hun
      refine wp_of_skip (hlast b hdat) ⟨_, (), rfl, ⟨fun h => ?_, fun _ => rfl⟩, trivial, fun _ => rfl, Or.inl rfl⟩
      rw [hself] at h; cases h
    · have hst := hcl.before hls hun hos (hall i (hlt i o hi) his) rfl rfl
      obtain rfl := hG.1 hst
      refine hquiet i o hi his b _ hdat (fun t ht => hR.old ht) ⟨_, (), rfl, ⟨fun _ => rfl, fun h => ?_⟩, trivial, fun h => absurd h (hdst i o hi his), Or.inr rfl⟩
      rw [hset is (fun e => his e.symm), hst] at h; cases h
  · intro listed γ b wx hall' hR hG
    obtain rfl := hG.2 (hall' is (hlt is os_ hos))
    exact hend _ hR.size (hR.ds.trans hds) (fun t ht => hR.old ht)

def mapped (w : World) (M : Nat) (B : Nat) (ss : Nat → Nat) (k : Nat) : World := { w.drew with heap := w.heap.setIfInBounds M (.map (mapEs B ss k) k) }

set_option maxRecDepth 100000 in
set_option maxHeartbeats 4000000 in
theorem law_r27 {Q : Exit → Act → World → Prop} (B A M Pa j i sb so n cap : Nat) (ss : Nat → Nat) (hss : ∀ j, ss j < 256) (f : Act) (w : World) (hj : j < 4) (hi : i < n) (hb : ∀ j, j < 4 → Blk w (aspb B j)) (hm : w.heap[M]? = some (.map (mapEs B ss j) j))
    (c9 : w.cell? ⟨A, 9, none⟩ = some (.map (some M))) (cp : w.cell? ⟨Pa, j, none⟩ = some (.pointer (some ⟨aspb B j, 0, none⟩))) (cs : w.cell? ⟨sb, so + i * 7 + 3 + j, none⟩ = some (.int .u8 (ss j : Int)))
    (hsz : f.tmps.size = 368) (hds : f.defers = []) (ht17 : f.tmps[17]?.getD undef = .pointer (some ⟨A, 0, none⟩)) (ht18 : f.tmps[18]?.getD undef = .int .i64 (j : Int)) (ht9 : f.tmps[9]?.getD undef = .pointer (some ⟨Pa, 0, none⟩)) (ht0 : f.tmps[0]?.getD undef = .slice (some ⟨sb, so, none⟩) n cap) (ht14 : f.tmps[14]?.getD undef = .int .i64 (i : Int))
    (hend : ∀ f', f'.tmps.size = 368 → f'.defers = [] → (∀ t, t < 43 → f'.tmps[t]?.getD undef = f.tmps[t]?.getD undef) → Q .normal f' (mapped w M B ss (j + 1))) :
    Code.wp Ybad.prog ((Ybad.f3.body.bind (reg 27)).getD .skip) Q f w := by
  conv => arg 2; whnf
  have hj0 : (0 : Int) ≤ (j : Int) := by omega
  have hj1 : (j : Int) < 4 := by omega
  have hi0 : (0 : Int) ≤ (i : Int) := by omega
  have hi1 : (i : Int) < (n : Int) := by omega
  have hup := upd_asp B M ss w.drew hb j hj hm
  unfold ptr at hup
  refine last_shape (N := 368) f w (mapped w M B ss (j + 1)) (by kernel_rfl) (fun idx => match idx with
    | 0 => .pointer (some ⟨A, 0, none⟩)
    | 1 => .pointer (some ⟨A, 0, none⟩)
    | 2 => .pointer (some ⟨A, 9, none⟩)
    | 3 => .map (some M)
    | 4 => .int .i64 (j : Int)
    | 5 => .pointer (some ⟨Pa, j, none⟩)
    | 6 => .pointer (some ⟨aspb B j, 0, none⟩)
    | 7 => .slice (some ⟨sb, so, none⟩) n cap
    | 8 => .int .i64 (i : Int)
    | 9 => .int .i64 (j : Int)
    | 10 => .pointer (some ⟨sb, so + i * 7, none⟩)
    | 11 => .pointer (some ⟨sb, so + i * 7 + 3, none⟩)
    | 12 => .pointer (some ⟨sb, so + i * 7 + 3 + j, none⟩)
    | 13 => .int .u8 (ss j : Int)
    | 14 => .string (aspB (ss j))
    | _ => undef) 15 rfl rfl ?_ hsz hds ?_ ?_ ?_ ?_
  · intro i h1 h2
    match i, h1, h2 with
    | 0, _, _ => simp
    | 1, _, _ => simp
    | 2, _, _ => simp
    | 3, _, _ => simp
    | 4, _, _ => simp
    | 5, _, _ => simp
    | 6, _, _ => simp
    | 7, _, _ => simp
    | 8, _, _ => simp
    | 9, _, _ => simp
    | 10, _, _ => simp
    | 11, _, _ => simp
    | 12, _, _ => simp
    | 13, _, _ => simp
    | 14, _, _ => simp
    | 15, _, h2 => exact absurd rfl h2
    | _ + 16, h, _ => simp at h; omega
  · intro i o hi h3
    match i, hi, h3 with
    | 0, hi, _ => (simp only [List.getElem?_toArray, List.getElem?_cons_zero, List.getElem?_cons_succ, Option.some.injEq] at hi; subst hi; simp)
    | 1, hi, _ => (simp only [List.getElem?_toArray, List.getElem?_cons_zero, List.getElem?_cons_succ, Option.some.injEq] at hi; subst hi; simp)
    | 2, hi, _ => (simp only [List.getElem?_toArray, List.getElem?_cons_zero, List.getElem?_cons_succ, Option.some.injEq] at hi; subst hi; simp)
    | 3, hi, _ => (simp only [List.getElem?_toArray, List.getElem?_cons_zero, List.getElem?_cons_succ, Option.some.injEq] at hi; subst hi; simp)
    | 4, hi, _ => (simp only [List.getElem?_toArray, List.getElem?_cons_zero, List.getElem?_cons_succ, Option.some.injEq] at hi; subst hi; simp)
    | 5, hi, _ => (simp only [List.getElem?_toArray, List.getElem?_cons_zero, List.getElem?_cons_succ, Option.some.injEq] at hi; subst hi; simp)
    | 6, hi, _ => (simp only [List.getElem?_toArray, List.getElem?_cons_zero, List.getElem?_cons_succ, Option.some.injEq] at hi; subst hi; simp)
    | 7, hi, _ => (simp only [List.getElem?_toArray, List.getElem?_cons_zero, List.getElem?_cons_succ, Option.some.injEq] at hi; subst hi; simp)
    | 8, hi, _ => (simp only [List.getElem?_toArray, List.getElem?_cons_zero, List.getElem?_cons_succ, Option.some.injEq] at hi; subst hi; simp)
    | 9, hi, _ => (simp only [List.getElem?_toArray, List.getElem?_cons_zero, List.getElem?_cons_succ, Option.some.injEq] at hi; subst hi; simp)
    | 10, hi, _ => (simp only [List.getElem?_toArray, List.getElem?_cons_zero, List.getElem?_cons_succ, Option.some.injEq] at hi; subst hi; simp)
    | 11, hi, _ => (simp only [List.getElem?_toArray, List.getElem?_cons_zero, List.getElem?_cons_succ, Option.some.injEq] at hi; subst hi; simp)
    | 12, hi, _ => (simp only [List.getElem?_toArray, List.getElem?_cons_zero, List.getElem?_cons_succ, Option.some.injEq] at hi; subst hi; simp)
    | 13, hi, _ => (simp only [List.getElem?_toArray, List.getElem?_cons_zero, List.getElem?_cons_succ, Option.some.injEq] at hi; subst hi; simp)
    | 14, hi, _ => (simp only [List.getElem?_toArray, List.getElem?_cons_zero, List.getElem?_cons_succ, Option.some.injEq] at hi; subst hi; simp)
    | 15, hi, h3 => exact absurd rfl h3
    | _ + 16, hi, _ => simp at hi
  · intro idx o hi h3 b K hdat hold hK
    match idx, hi, h3 with
    | 0, hi, h3 =>
      simp only [List.getElem?_toArray, List.getElem?_cons_zero, List.getElem?_cons_succ, Option.some.injEq] at hi
      subst hi
      have e17 : b.tmps[17]?.getD undef = .pointer (some ⟨A, 0, none⟩) := (hold 17 (by decide)).trans ht17
      clear hold hdat
      exact wp_of_value (v := .pointer (some ⟨A, 0, none⟩)) (w' := w.drew) (by go_simp) hK
    | 1, hi, h3 =>
      simp only [List.getElem?_toArray, List.getElem?_cons_zero, List.getElem?_cons_succ, Option.some.injEq] at hi
      subst hi
      have e128 : b.tmps[128]?.getD undef = .pointer (some ⟨A, 0, none⟩) := hdat 0 128 (by simp) (by decide) rfl
      clear hold hdat
      exact wp_of_value (v := .pointer (some ⟨A, 0, none⟩)) (w' := w.drew) (by go_simp) hK
    | 2, hi, h3 =>
      simp only [List.getElem?_toArray, List.getElem?_cons_zero, List.getElem?_cons_succ, Option.some.injEq] at hi
      subst hi
      have e129 : b.tmps[129]?.getD undef = .pointer (some ⟨A, 0, none⟩) := hdat 1 129 (by simp) (by decide) rfl
      clear hold hdat
      exact wp_of_value (v := .pointer (some ⟨A, 9, none⟩)) (w' := w.drew) (by go_simp) hK
    | 3, hi, h3 =>
      simp only [List.getElem?_toArray, List.getElem?_cons_zero, List.getElem?_cons_succ, Option.some.injEq] at hi
      subst hi
      have e130 : b.tmps[130]?.getD undef = .pointer (some ⟨A, 9, none⟩) := hdat 2 130 (by simp) (by decide) rfl
      clear hold hdat
      exact wp_of_value (v := .map (some M)) (w' := w.drew) (by go_simp) hK
    | 4, hi, h3 =>
      simp only [List.getElem?_toArray, List.getElem?_cons_zero, List.getElem?_cons_succ, Option.some.injEq] at hi
      subst hi
      have e18 : b.tmps[18]?.getD undef = .int .i64 (j : Int) := (hold 18 (by decide)).trans ht18
      clear hold hdat
      exact wp_of_value (v := .int .i64 (j : Int)) (w' := w.drew) (by go_simp) hK
    | 5, hi, h3 =>
      simp only [List.getElem?_toArray, List.getElem?_cons_zero, List.getElem?_cons_succ, Option.some.injEq] at hi
      subst hi
      have e9 : b.tmps[9]?.getD undef = .pointer (some ⟨Pa, 0, none⟩) := (hold 9 (by decide)).trans ht9
      have e132 : b.tmps[132]?.getD undef = .int .i64 (j : Int) := hdat 4 132 (by simp) (by decide) rfl
      clear hold hdat
      exact wp_of_value (v := .pointer (some ⟨Pa, j, none⟩)) (w' := w.drew) (by go_simp) hK
    | 6, hi, h3 =>
      simp only [List.getElem?_toArray, List.getElem?_cons_zero, List.getElem?_cons_succ, Option.some.injEq] at hi
      subst hi
      have e133 : b.tmps[133]?.getD undef = .pointer (some ⟨Pa, j, none⟩) := hdat 5 133 (by simp) (by decide) rfl
      clear hold hdat
      exact wp_of_value (v := .pointer (some ⟨aspb B j, 0, none⟩)) (w' := w.drew) (by go_simp) hK
    | 7, hi, h3 =>
      simp only [List.getElem?_toArray, List.getElem?_cons_zero, List.getElem?_cons_succ, Option.some.injEq] at hi
      subst hi
      have e0 : b.tmps[0]?.getD undef = .slice (some ⟨sb, so, none⟩) n cap := (hold 0 (by decide)).trans ht0
      clear hold hdat
      exact wp_of_value (v := .slice (some ⟨sb, so, none⟩) n cap) (w' := w.drew) (by go_simp) hK
    | 8, hi, h3 =>
      simp only [List.getElem?_toArray, List.getElem?_cons_zero, List.getElem?_cons_succ, Option.some.injEq] at hi
      subst hi
      have e14 : b.tmps[14]?.getD undef = .int .i64 (i : Int) := (hold 14 (by decide)).trans ht14
      clear hold hdat
      exact wp_of_value (v := .int .i64 (i : Int)) (w' := w.drew) (by go_simp) hK
    | 9, hi, h3 =>
      simp only [List.getElem?_toArray, List.getElem?_cons_zero, List.getElem?_cons_succ, Option.some.injEq] at hi
      subst hi
      have e18 : b.tmps[18]?.getD undef = .int .i64 (j : Int) := (hold 18 (by decide)).trans ht18
      clear hold hdat
      exact wp_of_value (v := .int .i64 (j : Int)) (w' := w.drew) (by go_simp) hK
    | 10, hi, h3 =>
      simp only [List.getElem?_toArray, List.getElem?_cons_zero, List.getElem?_cons_succ, Option.some.injEq] at hi
      subst hi
      have e135 : b.tmps[135]?.getD undef = .slice (some ⟨sb, so, none⟩) n cap := hdat 7 135 (by simp) (by decide) rfl
      have e136 : b.tmps[136]?.getD undef = .int .i64 (i : Int) := hdat 8 136 (by simp) (by decide) rfl
      clear hold hdat
      exact wp_of_value (v := .pointer (some ⟨sb, so + i * 7, none⟩)) (w' := w.drew) (by go_simp) hK
    | 11, hi, h3 =>
      simp only [List.getElem?_toArray, List.getElem?_cons_zero, List.getElem?_cons_succ, Option.some.injEq] at hi
      subst hi
      have e138 : b.tmps[138]?.getD undef = .pointer (some ⟨sb, so + i * 7, none⟩) := hdat 10 138 (by simp) (by decide) rfl
      clear hold hdat
      exact wp_of_value (v := .pointer (some ⟨sb, so + i * 7 + 3, none⟩)) (w' := w.drew) (by go_simp) hK
    | 12, hi, h3 =>
      simp only [List.getElem?_toArray, List.getElem?_cons_zero, List.getElem?_cons_succ, Option.some.injEq] at hi
      subst hi
      have e139 : b.tmps[139]?.getD undef = .pointer (some ⟨sb, so + i * 7 + 3, none⟩) := hdat 11 139 (by simp) (by decide) rfl
      have e137 : b.tmps[137]?.getD undef = .int .i64 (j : Int) := hdat 9 137 (by simp) (by decide) rfl
      clear hold hdat
      exact wp_of_value (v := .pointer (some ⟨sb, so + i * 7 + 3 + j, none⟩)) (w' := w.drew) (by go_simp) hK
    | 13, hi, h3 =>
      simp only [List.getElem?_toArray, List.getElem?_cons_zero, List.getElem?_cons_succ, Option.some.injEq] at hi
      subst hi
      have e140 : b.tmps[140]?.getD undef = .pointer (some ⟨sb, so + i * 7 + 3 + j, none⟩) := hdat 12 140 (by simp) (by decide) rfl
      clear hold hdat
      exact wp_of_value (v := .int .u8 (ss j : Int)) (w' := w.drew) (by go_simp) hK
    | 14, hi, h3 =>
      simp only [List.getElem?_toArray, List.getElem?_cons_zero, List.getElem?_cons_succ, Option.some.injEq] at hi
      subst hi
      have e141 : b.tmps[141]?.getD undef = .int .u8 (ss j : Int) := hdat 13 141 (by simp) (by decide) rfl
      clear hold hdat
      refine wp_of_call (f := 5) (args := #[.int .u8 (ss j : Int)]) (w1 := w.drew) (by go_simp) ?_
      refine (aspState_any (ss j) (hss j) w.drew).mono ?_
      rintro e' w' ⟨rfl, rfl⟩
      refine ⟨_, rfl, ?_⟩
      rw [aspS_eq]
      exact hK
    | 15, hi, h3 => exact absurd rfl h3
    | _ + 16, hi, _ => simp at hi
  · intro b hdat
    have e131 : b.tmps[131]?.getD undef = .map (some M) := hdat 3 131 (by simp) (by decide) rfl
    have e134 : b.tmps[134]?.getD undef = .pointer (some ⟨aspb B j, 0, none⟩) := hdat 6 134 (by simp) (by decide) rfl
    have e142 : b.tmps[142]?.getD undef = .string (aspB (ss j)) := hdat 14 142 (by simp) (by decide) rfl
    clear hdat
    go_simp
    rfl
  · intro f' h1 h2 h3
    exact hend f' h1 h2 (fun t ht => h3 t (by revert t; decide))
end Go.Proofs.YbulkbndkDoor.Pr
