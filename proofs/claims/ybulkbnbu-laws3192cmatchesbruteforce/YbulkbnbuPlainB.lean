/-
  The plain law of the knapsack, second part: the answer that is put together from the contenders' table is the best.
-/
import Derived.Test.YbulkbnbuPlain
namespace Go.Proofs.Ybulkbnbu.Pl

/-- The kept places' items, in the places' order. -/
def kl (o s : Nat → Nat) (cap n : Nat) : List Nat := ((List.range n).filter (kept o s cap)).map o

theorem inj_of (o : Nat → Nat) (n : Nat) (h : ((List.range n).map o).Perm (List.range n)) (i j : Nat) (hi : i < n) (hj : j < n) (e : o i = o j) : i = j := by
  have nd : ((List.range n).map o).Nodup := h.symm.nodup List.nodup_range
  have hl : ((List.range n).map o).length = n := by simp
  have h2 := List.pairwise_iff_getElem.1 nd
  rcases Nat.lt_trichotomy i j with hij | hij | hij
  · exact absurd (by rw [List.getElem_map, List.getElem_map, List.getElem_range, List.getElem_range]; exact e) (h2 i j (by omega) (by omega) hij)
  · exact hij
  · exact absurd (by rw [List.getElem_map, List.getElem_map, List.getElem_range, List.getElem_range]; exact e.symm) (h2 j i (by omega) (by omega) hij)

theorem sum_filter (f : Nat → Nat) (q : Nat → Bool) (l : List Nat) (h : ∀ j ∈ l, q j = false → f j = 0) : (l.map f).sum = ((l.filter q).map f).sum := by
  induction l with
  | nil => rfl
  | cons a l ih =>
    have := ih fun j hj => h j (List.mem_cons_of_mem _ hj)
    cases hq : q a with
    | true => rw [List.filter_cons_of_pos hq]; simp [this]
    | false => rw [List.filter_cons_of_neg (by simp [hq])]; simp [this, h a (by simp) hq]

theorem sum_perm (f : Nat → Nat) {l m : List Nat} (h : l.Perm m) : (l.map f).sum = (m.map f).sum := (h.map f).sum_nat

theorem sm_getD (f : Nat → Nat) (K : List Nat) : sm (fun j => f (K.getD j 0)) K.length = (K.map f).sum := by
  rw [← sm_list]
  congr 1
  apply List.ext_getElem
  · simp
  · intro i h1 h2
    simp at h1
    simp [h1]

open Classical in
theorem contend (s v o : Nat → Nat) (n cap : Nat) (K : List Nat) (u : Nat) (hs : ∀ i, 1 ≤ s i) (hperm : ((List.range n).map o).Perm (List.range n)) (ho : Ord o s v n)
    (hK : K.Perm (kl o s cap n)) (hKs : K.Pairwise (· < ·)) (hu : 0 < u) (hdvd : ∀ j, j < K.length → u ∣ s (K.getD j 0)) :
    BestOk s v n cap (F (fun j => s (K.getD j 0) / u) (fun j => v (K.getD j 0)) K.length (cap / u))
      ((R (fun j => s (K.getD j 0) / u) (fun j => v (K.getD j 0)) K.length (cap / u)).map fun j => K.getD j 0) := by
  have hkd : ∀ j, j < K.length → K.getD j 0 = K[j]! := fun j hj => by simp [hj, getElem!_pos]
  have hlt : ∀ j, j < K.length → K.getD j 0 < n := fun j hj => by
    have hm : K.getD j 0 ∈ K := by simp [hj]
    have h2 := hK.mem_iff.1 hm
    simp only [kl, List.mem_map, List.mem_filter, List.mem_range] at h2
    obtain ⟨a, ⟨ha, _⟩, e⟩ := h2
    have h3 := hperm.mem_iff.1 (List.mem_map.2 ⟨a, List.mem_range.2 ha, e⟩)
    exact List.mem_range.1 h3
  have hR := fun j (hj : j ∈ R (fun j => s (K.getD j 0) / u) (fun j => v (K.getD j 0)) K.length (cap / u)) => R_lt _ _ _ _ j hj
  refine ⟨?_, ?_, ?_, ?_, ?_⟩
  · rw [List.pairwise_map]
    refine (R_sorted _ _ _ _).imp_of_mem fun {a b} ha hb hab => ?_
    have h1 := hR a ha; have h2 := hR b hb
    have := List.pairwise_iff_getElem.1 hKs a b h1 h2 hab
    simpa [h1, h2] using this
  · intro i hi
    obtain ⟨j, hj, rfl⟩ := List.mem_map.1 hi
    exact hlt j (hR j hj)
  · have h1 := R_sz (fun j => s (K.getD j 0) / u) (fun j => v (K.getD j 0)) K.length (cap / u)
    have h2 : ∀ l : List Nat, (∀ j ∈ l, j < K.length) → ((l.map fun j => K.getD j 0).map s).sum = u * (l.map fun j => s (K.getD j 0) / u).sum := by
      intro l
      induction l with
      | nil => intro _; rfl
      | cons a l ih =>
        intro h
        have e1 := ih fun j hj => h j (List.mem_cons_of_mem _ hj)
        have e2 := Nat.mul_div_cancel' (hdvd a (h a (by simp)))
        simp only [List.map_cons, List.sum_cons, Nat.mul_add] at e1 ⊢
        omega
    rw [h2 _ hR]
    have h3 := Nat.mul_le_mul_left u h1
    have h4 := Nat.mul_div_le cap u
    omega
  · rw [List.map_map]
    exact R_v (fun j => s (K.getD j 0) / u) (fun j => v (K.getD j 0)) K.length (cap / u)
  · intro p hp
    have tr : ∀ f : Nat → Nat, sm (fun j => f (o j)) n = sm f n := fun f => by
      rw [← sm_list, ← sm_list]
      have := sum_perm f hperm
      rwa [List.map_map] at this
    have e0 : ∀ f : Nat → Nat, sm (on (fun j => p (o j)) (fun j => f (o j))) n = sm (on p f) n := fun f => tr (on p f)
    obtain ⟨P', h1, h2, h3⟩ := swap o s v n cap hs ho _ (fun j => p (o j)) rfl (by rw [e0]; exact hp)
    rw [e0] at h3
    -- the choice on items
    let p' : Nat → Bool := fun i => decide (∃ j, j < n ∧ o j = i ∧ P' j = true)
    have hp' : ∀ j, j < n → p' (o j) = P' j := fun j hj => by
      simp only [p']
      by_cases hP : P' j = true
      · rw [hP]; exact decide_eq_true ⟨j, hj, rfl, hP⟩
      · rw [Bool.not_eq_true] at hP
        rw [hP]
        apply decide_eq_false
        rintro ⟨a, ha, e, hPa⟩
        have := inj_of o n hperm a j ha hj e
        subst this
        rw [hP] at hPa; exact absurd hPa (by simp)
    have e1 : ∀ f : Nat → Nat, sm (on P' (fun j => f (o j))) n = sm (on (fun j => p' (K.getD j 0)) (fun j => f (K.getD j 0))) K.length := fun f => by
      have a1 : sm (on P' (fun j => f (o j))) n = ((List.range n).map fun j => on p' f (o j)).sum := by
        rw [sm_list]
        exact sm_congr _ _ n fun j hj => by simp only [on, hp' j hj]
      have a2 := sum_filter (fun j => on p' f (o j)) (kept o s cap) (List.range n) (fun j hj hq => by
        have hj' := List.mem_range.1 hj
        simp only [on, hp' j hj']
        cases hP : P' j with
        | false => simp
        | true => rw [h1 j hj' hP] at hq; exact absurd hq (by simp))
      have a3 : ((K.map (on p' f)).sum) = (((List.range n).filter (kept o s cap)).map fun j => on p' f (o j)).sum := by
        rw [sum_perm (on p' f) hK]
        simp only [kl, List.map_map]
        rfl
      rw [a1, a2, ← a3, ← sm_getD]
      rfl
    rw [e1] at h2 h3
    refine Nat.le_trans h3 (F_ub _ _ _ _ _ ?_)
    rw [Nat.le_div_iff_mul_le hu]
    have a4 : sm (on (fun j => p' (K.getD j 0)) (fun j => s (K.getD j 0))) K.length = u * sm (on (fun j => p' (K.getD j 0)) (fun j => s (K.getD j 0) / u)) K.length := by
      rw [← sm_mul]
      exact sm_congr _ _ _ fun j hj => by
        simp only [on]
        split
        · exact (Nat.mul_div_cancel' (hdvd j hj)).symm
        · simp
    rw [a4, Nat.mul_comm] at h2
    exact h2
/-- Everything fits. -/
theorem fits (s v : Nat → Nat) (n cap : Nat) (h : sm s n ≤ cap) : BestOk s v n cap (sm v n) (List.range n) := by
  refine ⟨List.pairwise_lt_range, fun i hi => List.mem_range.1 hi, by rw [sm_list]; exact h, sm_list v n, fun p _ => sm_le _ _ n fun i _ => ?_⟩
  simp only [on]; split <;> omega
end Go.Proofs.Ybulkbnbu.Pl
