/-
  The outbox and the four associations; association.add, association.send.
-/
import Derived.Test.YbulkbndkDoorAddR
namespace Go.Proofs.YbulkbndkDoor.Pr
set_option linter.unusedSimpArgs false
open Go.ChangeShapes Go.WideShapes Go.ChangeAt Go.RowKit

/-- What has been sent: to each ASP; and in which order each was first sent to. -/
structure SS where
  ex : Nat → List (Nat × Nat)
  od : List Nat
def SS.push (S : SS) (j : Nat) (e : Nat × Nat) : SS := ⟨fun i => if i = j then S.ex j ++ [e] else S.ex i, if S.ex j = [] then S.od ++ [j] else S.od⟩

def ptr (b : Nat) : Value := .pointer (some ⟨b, 0, none⟩)
def asb (B j : Nat) : Nat := B + 3 + 2 * j
def qcells (ms : List Nat) : List Value := ms.flatMap fun p => [ptr p, .int .u64 0, .int .i64 0, .pointer none]
theorem qcells_len (ms : List Nat) : (qcells ms).length = ms.length * 4 := by
  induction ms with
  | nil => rfl
  | cons p ms ih => simp only [qcells, List.flatMap_cons, List.length_append] at *; rw [ih]; simp; omega
theorem qcells_append (ms : List Nat) (p : Nat) : qcells (ms ++ [p]) = qcells ms ++ [ptr p, .int .u64 0, .int .i64 0, .pointer none] := by simp [qcells]

structure Bx (B : Nat) (S : SS) (pv : Value) (bv : Nat → Value) (mp : Nat → List Nat) (w : World) : Prop where
  box : w.rowIs B 31 1 (fun _ => pv)
  asc : ∀ j, j < 4 → ∃ f, w.rowIs (asb B j) 63 21 f ∧ f 16 = ptr B ∧ f 17 = bv j
  pend : w.ownsRow B 34 1 pv S.od.length (S.od.map fun j => ptr (asb B j))
  bat : ∀ j, j < 4 → w.ownsRow B 137 4 (bv j) (mp j).length (qcells (mp j))
  dis : ∀ i j k, i < 4 → j < 4 → (bv i).ownBlock = some k → (bv j).ownBlock = some k → i = j
  len : ∀ j, j < 4 → (mp j).length = (S.ex j).length
  msg : ∀ (j i p : Nat) (e : Nat × Nat), j < 4 → (mp j)[i]? = some p → (S.ex j)[i]? = some e → IsMsg w p e.1 e.2

theorem Bx.fr {B : Nat} {S : SS} {pv : Value} {bv : Nat → Value} {mp : Nat → List Nat} {w w' : World} {T : List TypeId} {B' : Nat} (h : Bx B S pv bv mp w) (hF : Fr B' T w w') (h1 : 31 ∉ T) (h2 : 63 ∉ T) (h3 : 34 ∉ T) (h4 : 137 ∉ T) (h5 : 148 ∉ T) (h6 : 152 ∉ T) (h7 : 5 ∉ T) : Bx B S pv bv mp w' :=
  ⟨hF.row h.box h1, fun j hj => by obtain ⟨f, a, b⟩ := h.asc j hj; exact ⟨f, hF.row a h2, b⟩, hF.owns h.pend h3, fun j hj => hF.owns (h.bat j hj) h4, h.dis, h.len, fun j i p e hj a b => (h.msg j i p e hj a b).fr hF h5 h6 h7⟩

theorem row_one {w : World} {b t : Nat} {f g : Nat → Value} (h : w.rowIs b t 1 f) (e : f 0 = g 0) : w.rowIs b t 1 g := by
  obtain ⟨c, h1, h2, h3⟩ := h
  refine ⟨c, h1, h2, fun i hi => ?_⟩
  obtain rfl : i = 0 := by omega
  rw [← e]; exact h3 0 hi
theorem ne_of_tags {w : World} {a k n m t u size base : Nat} {f : Nat → Value} {v : Value} {xs : List Value} (hr : w.rowIs a t n f) (ho : w.ownsRow base u size v m xs) (hne : t ≠ u) (hk : v.ownBlock = some k) : k ≠ a := by
  obtain ⟨c1, h1⟩ := row_tag hr
  obtain ⟨_, c2, h2⟩ := ownsRow_tag ho k hk
  exact fun e => tag_ne h1 h2 hne e.symm
theorem own_ne {w : World} {a n m t u size base : Nat} {f : Nat → Value} {v : Value} {xs : List Value} (hr : w.rowIs a t n f) (ho : w.ownsRow base u size v m xs) (hne : t ≠ u) : v.ownBlock ≠ some a := fun h => ne_of_tags hr ho hne h rfl

/-- The frame of such an assignment, by the types. -/
theorem Apd.fr {w w' : World} {hb ho t n : Nat} {f : Nat → Value} {B e size m : Nat} {xs news : List Value} {gg cap : Nat} {B0 : Nat} (h : Apd w w' hb ho t n f B e size m xs news gg cap) (hr : w.rowIs hb t n f) (hown : w.ownsRow B e size (f ho) m xs) (h1 : B0 ≤ hb) (h2 : B0 ≤ B) : Fr B0 [t, e] w w' := by
  refine h.keeps.fr fun k hk hd => ?_
  rcases hd with rfl | hd
  · obtain ⟨c, hc⟩ := row_tag hr
    exact ⟨h1, c, t, _, hc, by simp⟩
  · obtain ⟨hB, c, hc⟩ := ownsRow_tag hown k hd
    exact ⟨by omega, c, e, _, hc, by simp⟩

theorem Bx.pushP {B : Nat} {S : SS} {pv : Value} {bv : Nat → Value} {mp : Nat → List Nat} {w w' : World} {j gg cap : Nat} (h : Bx B S pv bv mp w) (ha : Apd w w' B 0 31 1 (fun _ => pv) B 34 1 S.od.length (S.od.map fun j => ptr (asb B j)) [ptr (asb B j)] gg cap) :
    Bx B ⟨S.ex, S.od ++ [j]⟩ (.slice (some ⟨gg, 0, none⟩) (S.od.length + 1) cap) bv mp w' ∧ Fr B [31, 34] w w' := by
  have hF : Fr B [31, 34] w w' := ha.fr h.box h.pend (Nat.le_refl _) (Nat.le_refl _)
  refine ⟨⟨row_one ha.row (by simp), fun j hj => ?_, ?_, fun j hj => hF.owns (h.bat j hj) (by decide), h.dis, h.len, fun j i p e hj a b => (h.msg j i p e hj a b).fr hF (by decide) (by decide) (by decide)⟩, hF⟩
  · obtain ⟨f, a, b⟩ := h.asc j hj
    exact ⟨f, hF.row a (by decide), b⟩
  · have := ha.owns
    simpa using this

theorem Bx.pushB {B : Nat} {S : SS} {pv : Value} {bv : Nat → Value} {mp : Nat → List Nat} {w w' : World} {j p gg cap : Nat} {e : Nat × Nat} {f : Nat → Value} (h : Bx B S pv bv mp w) (hj : j < 4) (hr : w.rowIs (asb B j) 63 21 f) (hf16 : f 16 = ptr B) (hf : f 17 = bv j) (hm : IsMsg w p e.1 e.2)
    (ha : Apd w w' (asb B j) 17 63 21 f B 137 4 (mp j).length (qcells (mp j)) [ptr p, .int .u64 0, .int .i64 0, .pointer none] gg cap) :
    Bx B ⟨fun i => if i = j then S.ex j ++ [e] else S.ex i, S.od⟩ pv (fun i => if i = j then .slice (some ⟨gg, 0, none⟩) ((mp j).length + 1) cap else bv i) (fun i => if i = j then mp j ++ [p] else mp i) w' ∧ Fr B [63, 137] w w' := by
  have hF : Fr B [63, 137] w w' := ha.fr hr (by rw [hf]; exact h.bat j hj) (by unfold asb; omega) (Nat.le_refl _)
  have hat := ha.at_
  rw [hf] at hat
  have hkeep : ∀ k, k < w.heap.size → k ≠ asb B j → (bv j).ownBlock ≠ some k → w'.heap[k]? = w.heap[k]? := fun k hk h1 h2 => ha.keeps.block k hk (by rintro (e | e); exact h1 e; rw [hf] at e; exact h2 e)
  refine ⟨⟨hF.row h.box (by decide), fun i hi => ?_, hF.owns h.pend (by decide), fun i hi => ?_, ?_, ?_, ?_⟩, hF⟩
  · by_cases eij : i = j
    · subst eij
      refine ⟨_, ha.row, ?_, ?_⟩
      · simp [hf16]
      · simp
    · obtain ⟨f', a, b⟩ := h.asc i hi
      refine ⟨f', a.of_block (hkeep _ a.lt (by unfold asb; omega) (own_ne a (h.bat j hj) (by decide))), ?_⟩
      simpa [eij] using b
  · by_cases eij : i = j
    · subst eij
      have := ha.owns
      simp only [if_true, List.length_append, List.length_singleton, qcells_append]
      exact this
    · simp only [if_neg eij]
      refine ownsRow_of_block (h.bat i hi) fun k hk => hkeep k (ownsRow_lt (h.bat i hi) k hk) (ne_of_tags hr (h.bat i hi) (by decide) hk) fun e => eij (h.dis i j k hi hj hk e)
  · have key : ∀ i k, i < 4 → i ≠ j → (bv i).ownBlock = some k → k ≠ gg := fun i k hi hne hk e => by
      subst e
      rcases hat with h1 | h1
      · exact hne (h.dis i j k hi hj hk h1)
      · have := ownsRow_lt (h.bat i hi) k hk; omega
    intro i i' k hi hi' h1 h2
    by_cases e1 : i = j <;> by_cases e2 : i' = j
    · rw [e1, e2]
    · simp only [e1, e2, if_true, if_false] at h1 h2
      exact absurd (by simpa [Value.ownBlock, eq_comm] using h1) (key i' k hi' e2 h2)
    · simp only [e1, e2, if_true, if_false] at h1 h2
      exact absurd (by simpa [Value.ownBlock, eq_comm] using h2) (key i k hi e1 h1)
    · simp only [e1, e2, if_false] at h1 h2
      exact h.dis i i' k hi hi' h1 h2
  · intro i hi
    by_cases eij : i = j
    · simp [eij, h.len j hj]
    · simp [eij, h.len i hi]
  · intro i n q e' hi h1 h2
    by_cases eij : i = j
    · subst eij
      simp only [if_true] at h1 h2
      rcases Nat.lt_trichotomy n (mp i).length with hn | hn | hn
      · rw [List.getElem?_append_left hn] at h1
        rw [List.getElem?_append_left (by rw [← h.len i hi]; exact hn)] at h2
        exact (h.msg i n q e' hi h1 h2).fr hF (by decide) (by decide) (by decide)
      · subst hn
        rw [h.len i hi] at h1
        rw [List.getElem?_append_right (by have := h.len i hi; omega)] at h1
        rw [List.getElem?_append_right (by have := h.len i hi; omega)] at h2
        simp [h.len i hi] at h1 h2
        subst h1; subst h2
        exact hm.fr hF (by decide) (by decide) (by decide)
      · rw [List.getElem?_append_right (by omega)] at h1
        have : n - (mp i).length ≠ 0 := by omega
        rw [List.getElem?_singleton, if_neg this] at h1
        cases h1
    · simp only [if_neg eij] at h1 h2
      exact (h.msg i n q e' hi h1 h2).fr hF (by decide) (by decide) (by decide)
end Go.Proofs.YbulkbndkDoor.Pr
