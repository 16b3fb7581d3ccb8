/-
  The order of the contenders, in plain words: what the sort leaves.
-/
import Derived.Test.YbulkbnbuPlainB
import Derived.Test.YbulkbnbuCmp
namespace Go.Proofs.Ybulkbnbu.Kn
set_option linter.unusedSimpArgs false
set_option linter.unusedVariables false
open Go.Proofs.Ybulkbnbu.Pl Go.Sort

/-- The comparison of two items. -/
def cfn {n : Nat} (s v : Nat → Nat) (x y : Fin n) : Int := cf3 (s x.val : Int) (s y.val : Int) (v x.val) (v y.val) x.val y.val
/-- x comes ahead of y. -/
def Lt3 (s v : Nat → Nat) (x y : Nat) : Prop := s x < s y ∨ (s x = s y ∧ (v y < v x ∨ (v x = v y ∧ x < y)))
theorem lt3 {n : Nat} (s v : Nat → Nat) (x y : Fin n) : ltOf (cfn s v) x y = true ↔ Lt3 s v x.val y.val := by
  unfold ltOf cfn cf3 orI Lib.compareInt Lt3
  rw [decide_eq_true_eq]
  rcases Nat.lt_trichotomy (s x.val) (s y.val) with h | h | h
  · have h' : (s x.val : Int) < (s y.val : Int) := by omega
    rw [if_pos h']; simp [h]
  · have h1 : ¬ (s x.val : Int) < (s y.val : Int) := by omega
    have h2 : ¬ (s x.val : Int) > (s y.val : Int) := by omega
    rw [if_neg h1, if_neg h2]
    simp only [ne_eq, not_true, if_false, h, Nat.lt_irrefl, false_or, true_and]
    rcases Nat.lt_trichotomy (v y.val) (v x.val) with g | g | g
    · have g' : (v y.val : Int) < (v x.val : Int) := by omega
      rw [if_pos g']; simp [g]
    · have g1 : ¬ (v y.val : Int) < (v x.val : Int) := by omega
      have g2 : ¬ (v y.val : Int) > (v x.val : Int) := by omega
      rw [if_neg g1, if_neg g2]
      simp only [not_true, if_false, g, Nat.lt_irrefl, false_or, true_and]
      rcases Nat.lt_trichotomy x.val y.val with k | k | k
      · have k' : (x.val : Int) < (y.val : Int) := by omega
        rw [if_pos k']; simp; omega
      · have k1 : ¬ (x.val : Int) < (y.val : Int) := by omega
        have k2 : ¬ (x.val : Int) > (y.val : Int) := by omega
        rw [if_neg k1, if_neg k2]; simp; omega
      · have k1 : ¬ (x.val : Int) < (y.val : Int) := by omega
        have k2 : (x.val : Int) > (y.val : Int) := by omega
        rw [if_neg k1, if_pos k2]; simp; omega
    · have g1 : ¬ (v y.val : Int) < (v x.val : Int) := by omega
      have g2 : (v y.val : Int) > (v x.val : Int) := by omega
      rw [if_neg g1, if_pos g2]; simp; omega
  · have h1 : ¬ (s x.val : Int) < (s y.val : Int) := by omega
    have h2 : (s x.val : Int) > (s y.val : Int) := by omega
    rw [if_neg h1, if_pos h2]; simp; omega
theorem lt3f {n : Nat} (s v : Nat → Nat) (x y : Fin n) : ltOf (cfn s v) x y = false ↔ ¬ Lt3 s v x.val y.val := by
  rw [← lt3]; simp
theorem swo {n : Nat} (s v : Nat → Nat) : SWO (ltOf (cfn (n := n) s v)) := by
  refine ⟨fun x => ?_, fun x y z h1 h2 => ?_, fun x y z h1 h2 => ?_⟩
  · rw [lt3f]; unfold Lt3; omega
  · rw [lt3] at *; unfold Lt3 at *; omega
  · rw [lt3f] at *; unfold Lt3 at *; omega
theorem tot {n : Nat} (s v : Nat → Nat) (x y : Fin n) (h1 : ltOf (cfn s v) x y = false) (h2 : ltOf (cfn s v) y x = false) : x = y := by
  rw [lt3f] at h1 h2
  unfold Lt3 at h1 h2
  apply Fin.ext
  omega

/-- The places' items. -/
def plc {n : Nat} (L : List (Fin n)) (j : Nat) : Nat := (L.map (·.val)).getD j 0
theorem plc_map {n : Nat} (L : List (Fin n)) : (List.range L.length).map (plc L) = L.map (·.val) := by
  apply List.ext_getElem
  · simp
  · intro i h1 h2
    simp at h1
    simp [plc, h1]
def srt {n : Nat} (s v : Nat → Nat) : List (Fin n) := (List.finRange n).mergeSort fun x y => !(ltOf (cfn s v)) y x
theorem srt_len {n : Nat} (s v : Nat → Nat) : (srt (n := n) s v).length = n := by simp [srt]
theorem srt_perm {n : Nat} (s v : Nat → Nat) : ((List.range n).map (plc (srt (n := n) s v))).Perm (List.range n) := by
  have h := plc_map (srt (n := n) s v)
  rw [srt_len] at h
  rw [h]
  have h2 : (srt (n := n) s v).Perm (List.finRange n) := List.mergeSort_perm _ _
  have h3 := h2.map (fun x : Fin n => x.val)
  have h4 : (List.finRange n).map (fun x : Fin n => x.val) = List.range n := by
    apply List.ext_getElem
    · simp
    · intro i h1 h2; simp
  rwa [h4] at h3
theorem srt_ord {n : Nat} (s v : Nat → Nat) : Ord (plc (srt (n := n) s v)) s v n := by
  have hp := List.pairwise_mergeSort (le := fun x y => !(ltOf (cfn (n := n) s v)) y x) (fun a b c h1 h2 => by
    simp only [Bool.not_eq_true'] at *
    rw [lt3f] at *; unfold Lt3 at *; omega) (fun a b => by
    cases h1 : ltOf (cfn (n := n) s v) b a with
    | false => rfl
    | true =>
      cases h2 : ltOf (cfn (n := n) s v) a b with
      | false => rfl
      | true => rw [lt3] at h1 h2; unfold Lt3 at h1 h2; omega) (List.finRange n)
  have key : ∀ i j, i < j → j < n → ¬ Lt3 s v (plc (srt (n := n) s v) j) (plc (srt (n := n) s v) i) := fun i j hij hj => by
    have hl := srt_len (n := n) s v
    have := List.pairwise_iff_getElem.1 hp i j (by show i < (srt (n := n) s v).length; omega) (by show j < (srt (n := n) s v).length; omega) hij
    simp only [Bool.not_eq_true'] at this
    rw [lt3f] at this
    have e1 : plc (srt (n := n) s v) i = ((srt (n := n) s v)[i]'(by omega)).val := by unfold plc; rw [List.getD_eq_getElem?_getD, List.getElem?_eq_getElem (by simp; omega)]; simp
    have e2 : plc (srt (n := n) s v) j = ((srt (n := n) s v)[j]'(by omega)).val := by unfold plc; rw [List.getD_eq_getElem?_getD, List.getElem?_eq_getElem (by simp; omega)]; simp
    rw [e1, e2]
    exact this
  refine ⟨fun i j hij hj => ?_, fun i j hij hj he => ?_⟩
  · have := key i j hij hj; unfold Lt3 at this; omega
  · have := key i j hij hj; unfold Lt3 at this; omega

/-- The kept items, in order. -/
def kpt (o s : Nat → Nat) (cap n : Nat) : List Nat := (kl o s cap n).mergeSort fun a b => decide (a ≤ b)
theorem kpt_perm (o s : Nat → Nat) (cap n : Nat) : (kpt o s cap n).Perm (kl o s cap n) := List.mergeSort_perm _ _
theorem kl_nodup (o s : Nat → Nat) (cap n : Nat) (h : ((List.range n).map o).Perm (List.range n)) : (kl o s cap n).Nodup := by
  have nd : ((List.range n).map o).Nodup := h.symm.nodup List.nodup_range
  unfold kl
  exact nd.sublist (List.Sublist.map _ List.filter_sublist)
theorem kpt_sort (o s : Nat → Nat) (cap n : Nat) (h : ((List.range n).map o).Perm (List.range n)) : (kpt o s cap n).Pairwise (· < ·) := by
  have h1 : (kpt o s cap n).Pairwise (fun a b => decide (a ≤ b) = true) := List.pairwise_mergeSort (fun a b c h1 h2 => by simp at *; omega) (fun a b => by simp; omega) _
  have h2 : (kpt o s cap n).Nodup := (kpt_perm o s cap n).symm.nodup (kl_nodup o s cap n h)
  refine (h1.and h2).imp fun {a b} ⟨h1, h2⟩ => ?_
  simp at h1
  omega
theorem kl_succ (o s : Nat → Nat) (cap k : Nat) : kl o s cap (k + 1) = kl o s cap k ++ if kept o s cap k = true then [o k] else [] := by
  unfold kl
  rw [List.range_succ, List.filter_append, List.map_append]
  congr 1
  by_cases h : kept o s cap k = true
  · rw [if_pos h]; simp [h]
  · rw [if_neg h]; simp [h]
theorem kpt_int (o s : Nat → Nat) (cap n : Nat) : (((kl o s cap n).map fun (a : Nat) => (a : Int)).mergeSort fun x y => decide (x ≤ y)) = (kpt o s cap n).map fun (a : Nat) => (a : Int) := by
  unfold kpt
  rw [List.map_mergeSort]
  intro a _ b _
  simp
end Go.Proofs.Ybulkbnbu.Kn
