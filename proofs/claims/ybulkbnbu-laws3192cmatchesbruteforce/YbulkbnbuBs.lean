/-
  slices.BinarySearch at rows of small numbers.
-/
import Derived.Test.YbulkbnbuR3
namespace Go.Proofs.Ybulkbnbu.Kn
set_option linter.unusedSimpArgs false
set_option linter.unusedVariables false
open Go.ChangeShapes Go.WideShapes Go.ChangeAt Go.RowKit
open Go.Proofs.Ybulkbnbu.Fl

theorem bs_nat (b off c : Nat) (xs : List Nat) (x : Nat) (w : World) (hc : ∀ (j y : Nat), xs[j]? = some y → w.cell? ⟨b, off + j, none⟩ = some (.int .i64 (y : Int))) (hs : xs.Pairwise (· < ·)) (hl : xs.length < 1000000) :
    Calls Yba.prog 36 #[.slice (some ⟨b, off, none⟩) xs.length c, .int .i64 (x : Int)] w fun e w' => e = .returned (.tuple #[.int .i64 ((xs.countP (fun y => decide (y < x)) : Nat) : Int), .bool (decide (x ∈ xs))]) ∧ ∃ q, w' = w.drewN q := by
  have h := Yba.slices_BinarySearch_int b off xs.length c (xs.map fun (n : Nat) => (n : Int)) (x : Int) w (by simp) (by omega) (fun j hj => by
    simp at hj
    have := hc j xs[j] (by simp [hj])
    rw [this]
    simp [hj]) (by
    rw [List.take_of_length_le (by simp), List.pairwise_map]
    exact hs.imp fun {a b} h => by omega)
  refine h.mono ?_
  rintro e w' ⟨rfl, q, rfl⟩
  refine ⟨?_, q, rfl⟩
  rw [List.take_of_length_le (by simp), List.countP_map]
  have e1 : List.countP ((fun y => decide (y < (x : Int))) ∘ fun (n : Nat) => (n : Int)) xs = List.countP (fun y => decide (y < x)) xs := List.countP_congr fun y _ => by simp
  have e2 : (List.map (fun (n : Nat) => (n : Int)) xs).contains (x : Int) = decide (x ∈ xs) := by
    rw [Bool.eq_iff_iff]
    simp only [List.contains_iff_mem, List.mem_map, decide_eq_true_eq]
    constructor
    · rintro ⟨a, ha, e⟩
      have : a = x := by omega
      rw [← this]; exact ha
    · exact fun h => ⟨x, h, rfl⟩
  rw [e1, e2]

/-- The cells of an owned row of numbers. -/
theorem own_ints {w : World} {B g n c : Nat} {xs : List Nat} (h : w.ownsRow B 3 1 (.slice (some ⟨g, 0, none⟩) n c) n (ints xs)) : ∀ (j y : Nat), xs[j]? = some y → w.cell? ⟨g, j, none⟩ = some (.int .i64 (y : Int)) := fun j y hj => by
  obtain ⟨a, cap, hv, hc⟩ := own_shape h
  simp only [Value.slice.injEq] at hv
  obtain ⟨b, h1, h2⟩ := hc j (.int .i64 (y : Int)) (by simp [ints, hj])
  obtain rfl : g = b := by
    have := hv.1.trans h1
    simpa using this
  exact h2
theorem own_flts {w : World} {B g n c : Nat} {us : List Nat} (h : w.ownsRow B 26 1 (.slice (some ⟨g, 0, none⟩) n c) n (flts us)) : ∀ (j y : Nat), us[j]? = some y → w.cell? ⟨g, j, none⟩ = some (.float .f64 (W y)) := fun j y hj => by
  obtain ⟨a, cap, hv, hc⟩ := own_shape h
  simp only [Value.slice.injEq] at hv
  obtain ⟨b, h1, h2⟩ := hc j (.float .f64 (W y)) (by simp [flts, hj])
  obtain rfl : g = b := by
    have := hv.1.trans h1
    simpa using this
  exact h2
theorem own_cap {w : World} {B e n c g : Nat} {xs : List Value} (h : w.ownsRow B e 1 (.slice (some ⟨g, 0, none⟩) n c) n xs) : n ≤ c ∧ c ≤ maxLen ∧ xs.length = n ∧ B ≤ g := by
  have hl : xs.length = n := by simpa using h.1
  rcases h.2 with ⟨hv, _⟩ | ⟨g', cap, cur, hv, hg, hh, hn, hc, hs, ht⟩
  · cases hv
  · simp only [Value.slice.injEq] at hv
    obtain ⟨h1, _, rfl⟩ := hv
    simp at h1
    subst h1
    exact ⟨hn, hc, hl, hg⟩
end Go.Proofs.Ybulkbnbu.Kn
