/-
  What the search's state says of a relation: the invariant of 'set' and 'propagate', and that setting a literal keeps it. Plain: no walk.
-/
import Derived.Test.YbulkbnbgDoorBase
namespace Go.Proofs.YbulkbnbgDoor.Pr

/-- Bit (a, b) set in a matrix of words. -/
def setW (c : Cfg) (M : Nat → Nat) (a b : Nat) (j : Nat) : Nat := if j = at_ c a b then M j ||| 2 ^ (b % 64) else M j

theorem at_inj {c : Cfg} (hc : c.Ok) {a b x y : Nat} (hb : b < c.n) (hy : y < c.n) (h : at_ c a b = at_ c x y) : a = x ∧ b / 64 = y / 64 := by
  unfold at_ at h
  have hw := hc.w1
  have hf := hc.fits
  have h1 : b / 64 < c.words := by omega
  have h2 : y / 64 < c.words := by omega
  have e1 : (a * c.words + b / 64) / c.words = a := by
    rw [Nat.mul_comm, Nat.mul_add_div (by omega), Nat.div_eq_of_lt h1]; omega
  have e2 : (x * c.words + y / 64) / c.words = x := by
    rw [Nat.mul_comm, Nat.mul_add_div (by omega), Nat.div_eq_of_lt h2]; omega
  have : a = x := by rw [← e1, ← e2, h]
  subst this
  exact ⟨rfl, by omega⟩

theorem R_set {c : Cfg} (hc : c.Ok) (M : Nat → Nat) {a b x y : Nat} (hb : b < c.n) (hy : y < c.n) : R c (setW c M a b) x y = (R c M x y || (decide (x = a) && decide (y = b))) := by
  unfold R setW
  by_cases h : at_ c x y = at_ c a b
  · obtain ⟨rfl, h2⟩ := at_inj hc hy hb h
    rw [if_pos h, or_test]
    have : decide (y % 64 = b % 64) = decide (y = b) := by
      rw [decide_eq_decide]; omega
    rw [this]; simp
  · rw [if_neg h]
    have : (decide (x = a) && decide (y = b)) = false := by
      rw [Bool.and_eq_false_iff, decide_eq_false_iff_not, decide_eq_false_iff_not]
      by_cases e : x = a
      · refine Or.inr fun e2 => h (by rw [e, e2])
      · exact Or.inl e
    rw [this]; simp

theorem lit_inj {n a b x y : Nat} (hb : b < n) (hy : y < n) (h : a * n + b = x * n + y) : a = x ∧ b = y := by
  have e1 : (a * n + b) / n = a := by rw [Nat.mul_comm, Nat.mul_add_div (by omega), Nat.div_eq_of_lt hb]; omega
  have e2 : (x * n + y) / n = x := by rw [Nat.mul_comm, Nat.mul_add_div (by omega), Nat.div_eq_of_lt hy]; omega
  have : a = x := by rw [← e1, ← e2, h]
  subst this
  exact ⟨rfl, by omega⟩

/-- No bit beyond the nodes. -/
def Within (c : Cfg) (M : Nat → Nat) : Prop := ∀ a k t, a < c.n → k < c.words → t < 64 → (M (a * c.words + k)).testBit t = true → k * 64 + t < c.n

theorem within_set {c : Cfg} (hc : c.Ok) {M : Nat → Nat} (h : Within c M) {a b : Nat} (hb : b < c.n) : Within c (setW c M a b) := by
  intro x k t hx hk ht hbit
  unfold setW at hbit
  split at hbit
  · rename_i e
    rw [or_test] at hbit
    rcases Bool.or_eq_true_iff.1 hbit with h1 | h1
    · exact h x k t hx hk ht h1
    · have h1 : t = b % 64 := of_decide_eq_true h1
      have hf := hc.fits
      have hw := hc.w1
      unfold at_ at e
      have h2 : b / 64 < c.words := by omega
      have e1 : (x * c.words + k) % c.words = k := by rw [Nat.mul_comm, Nat.mul_add_mod, Nat.mod_eq_of_lt hk]
      have e2 : (a * c.words + b / 64) % c.words = b / 64 := by rw [Nat.mul_comm, Nat.mul_add_mod, Nat.mod_eq_of_lt h2]
      have : k = b / 64 := by rw [← e1, e, e2]
      omega
  · exact h x k t hx hk ht hbit

/-- THE INVARIANT, over a transitive relation T that holds of every arc. -/
structure Inv (c : Cfg) (T : Nat → Nat → Prop) (s : PS) : Prop where
  lt : ∀ l, l ∈ s.tr → l < c.n * c.n
  nodup : s.tr.Nodup
  mem : ∀ a b, a < c.n → b < c.n → (R c s.Mb a b = true ↔ a * c.n + b ∈ s.tr)
  sym : ∀ a b, a < c.n → b < c.n → R c s.Ma b a = R c s.Mb a b
  wa : Within c s.Ma
  wb : Within c s.Mb
  sound : ∀ a b, a < c.n → b < c.n → R c s.Mb a b = true → T a b
  anti : ∀ a b, a < c.n → b < c.n → R c s.Mb a b = true → R c s.Mb b a = false
  head : s.head ≤ s.tr.length
  closed : ∀ i j x y z, i < s.head → j < s.head → x < c.n → y < c.n → z < c.n → s.tr[i]? = some (x * c.n + y) → s.tr[j]? = some (y * c.n + z) → R c s.Mb x z = true

theorem Inv.len {c : Cfg} {T : Nat → Nat → Prop} {s : PS} (h : Inv c T s) (hc : c.Ok) : s.tr.length ≤ c.n * c.n ∧ s.tr.length ≤ 6400 := by
  have h1 : s.tr.length ≤ (List.range (c.n * c.n)).length := List.Nodup.length_le_of_subset h.nodup fun l hl => by simpa using h.lt l hl
  have h2 := nn_le hc.n80
  simp at h1
  omega

/-- The entry of the trail at a place, as two nodes. -/
theorem Inv.entry {c : Cfg} {T : Nat → Nat → Prop} {s : PS} (h : Inv c T s) (hc : c.Ok) {i l : Nat} (hl : s.tr[i]? = some l) : ∃ a b, a < c.n ∧ b < c.n ∧ l = a * c.n + b ∧ R c s.Mb a b = true := by
  have hm := List.mem_of_getElem? hl
  have hlt := h.lt l hm
  have hn := hc.n1
  have e : l = l / c.n * c.n + l % c.n := by rw [Nat.mul_comm]; exact (Nat.div_add_mod l c.n).symm
  have h1 : l / c.n < c.n := Nat.div_lt_of_lt_mul hlt
  have h2 : l % c.n < c.n := Nat.mod_lt _ (by omega)
  refine ⟨l / c.n, l % c.n, h1, h2, e, (h.mem _ _ h1 h2).2 ?_⟩
  rw [← e]; exact hm

theorem Inv.irrefl {c : Cfg} {T : Nat → Nat → Prop} {s : PS} (h : Inv c T s) {a b : Nat} (ha : a < c.n) (hb : b < c.n) (hR : R c s.Mb a b = true) : a ≠ b := by
  rintro rfl
  have := h.anti a a ha hb hR
  rw [hR] at this; cases this

/-- A NEW LITERAL KEEPS IT. -/
theorem Inv.set {c : Cfg} {T : Nat → Nat → Prop} {s s' : PS} (hc : c.Ok) (h : Inv c T s) {a b : Nat} (ha : a < c.n) (hb : b < c.n) (hab : a ≠ b) (hT : T a b) (h1 : R c s.Mb a b = false) (h2 : R c s.Mb b a = false)
    (hMb : s'.Mb = setW c s.Mb a b) (hMa : s'.Ma = setW c s.Ma b a) (htr : s'.tr = s.tr ++ [a * c.n + b]) (hhd : s'.head = s.head) : Inv c T s' := by
  have hR : ∀ x y, y < c.n → R c s'.Mb x y = (R c s.Mb x y || (decide (x = a) && decide (y = b))) := fun x y hy => by rw [hMb, R_set hc _ hb hy]
  have hRa : ∀ x y, y < c.n → R c s'.Ma x y = (R c s.Ma x y || (decide (x = b) && decide (y = a))) := fun x y hy => by rw [hMa, R_set hc _ ha hy]
  have hnot : a * c.n + b ∉ s.tr := fun hm => by
    have := (h.mem a b ha hb).2 hm
    rw [h1] at this; cases this
  refine ⟨?_, ?_, ?_, ?_, ?_, ?_, ?_, ?_, ?_, ?_⟩
  · intro l hl
    rw [htr] at hl
    rcases List.mem_append.1 hl with hl | hl
    · exact h.lt l hl
    · rw [List.mem_singleton.1 hl]; exact lit_lt ha hb
  · rw [htr, List.nodup_append]
    refine ⟨h.nodup, by simp, fun x hx y hy => ?_⟩
    rw [List.mem_singleton.1 hy]
    rintro rfl
    exact hnot hx
  · intro x y hx hy
    rw [hR x y hy, htr, List.mem_append, Bool.or_eq_true_iff, h.mem x y hx hy, List.mem_singleton, Bool.and_eq_true, decide_eq_true_eq, decide_eq_true_eq]
    constructor
    · rintro (h | ⟨rfl, rfl⟩)
      · exact Or.inl h
      · exact Or.inr rfl
    · rintro (h | h)
      · exact Or.inl h
      · exact Or.inr (lit_inj hy hb h)
  · intro x y hx hy
    rw [hR x y hy, hRa y x hx, h.sym x y hx hy]
    congr 1
    rw [Bool.and_comm]
  · rw [hMa]; exact within_set hc h.wa ha
  · rw [hMb]; exact within_set hc h.wb hb
  · intro x y hx hy hxy
    rw [hR x y hy] at hxy
    rcases Bool.or_eq_true_iff.1 hxy with hxy | hxy
    · exact h.sound x y hx hy hxy
    · rw [Bool.and_eq_true, decide_eq_true_eq, decide_eq_true_eq] at hxy
      obtain ⟨rfl, rfl⟩ := hxy
      exact hT
  · intro x y hx hy hxy
    rw [hR x y hy] at hxy
    rw [hR y x hx, Bool.or_eq_false_iff]
    rcases Bool.or_eq_true_iff.1 hxy with hxy | hxy
    · refine ⟨h.anti x y hx hy hxy, ?_⟩
      rw [Bool.and_eq_false_iff, decide_eq_false_iff_not, decide_eq_false_iff_not]
      by_cases e : y = a
      · refine Or.inr fun e2 => ?_
        have h3 : R c s.Mb b a = true := by rw [← e, ← e2]; assumption
        rw [h2] at h3; cases h3
      · exact Or.inl e
    · rw [Bool.and_eq_true, decide_eq_true_eq, decide_eq_true_eq] at hxy
      obtain ⟨rfl, rfl⟩ := hxy
      refine ⟨h2, ?_⟩
      rw [Bool.and_eq_false_iff, decide_eq_false_iff_not, decide_eq_false_iff_not]
      exact Or.inl (Ne.symm hab)
  · rw [hhd, htr, List.length_append]
    have := h.head
    omega
  · intro i j x y z hi hj hx hy hz h3 h4
    rw [hhd] at hi hj
    have hh := h.head
    rw [htr, List.getElem?_append_left (by omega)] at h3 h4
    rw [hR x z hz, h.closed i j x y z hi hj hx hy hz h3 h4]
    rfl

/-- What stays as a search goes on. -/
structure Ext (c : Cfg) (s s' : PS) : Prop where
  mono : ∀ a b, b < c.n → R c s.Mb a b = true → R c s'.Mb a b = true
  tr : ∃ l, s'.tr = s.tr ++ l
  head : s'.head = s.head
  broken : s'.broken = s.broken

theorem Ext.refl (c : Cfg) (s : PS) : Ext c s s := ⟨fun _ _ _ h => h, ⟨[], by simp⟩, rfl, rfl⟩
theorem Ext.trans {c : Cfg} {s s' s'' : PS} (h : Ext c s s') (k : Ext c s' s'') : Ext c s s'' := by
  obtain ⟨l, hl⟩ := h.tr
  obtain ⟨m, hm⟩ := k.tr
  exact ⟨fun a b hb hr => k.mono a b hb (h.mono a b hb hr), ⟨l ++ m, by rw [hm, hl, List.append_assoc]⟩, k.head.trans h.head, k.broken.trans h.broken⟩

theorem ext_set {c : Cfg} (hc : c.Ok) {s s' : PS} {a b : Nat} (hb : b < c.n) (hMb : s'.Mb = setW c s.Mb a b) (htr : s'.tr = s.tr ++ [a * c.n + b]) (hhd : s'.head = s.head) (hbr : s'.broken = s.broken) : Ext c s s' ∧ R c s'.Mb a b = true := by
  refine ⟨⟨fun x y hy h => ?_, ⟨_, htr⟩, hhd, hbr⟩, ?_⟩
  · rw [hMb, R_set hc _ hb hy, h]; rfl
  · rw [hMb, R_set hc _ hb hb]; simp

/-- THE LITERAL AT THE HEAD IS DONE. -/
theorem Inv.advance {c : Cfg} {T : Nat → Nat → Prop} {s0 s s' : PS} (h0 : Inv c T s0) (h : Inv c T s) {a b : Nat} (ha : a < c.n) (hb : b < c.n) (hE : ∃ l, s.tr = s0.tr ++ l) (hhd : s.head = s0.head) (hl : s0.tr[s0.head]? = some (a * c.n + b))
    (hin : ∀ x, x < c.n → R c s0.Mb x a = true → R c s.Mb x b = true) (hout : ∀ z, z < c.n → R c s0.Mb b z = true → R c s.Mb a z = true)
    (e1 : s'.Mb = s.Mb) (e2 : s'.Ma = s.Ma) (e3 : s'.tr = s.tr) (e4 : s'.head = s0.head + 1) : Inv c T s' := by
  obtain ⟨l, hl'⟩ := hE
  have hlen : s0.head < s0.tr.length := (List.getElem?_eq_some_iff.1 hl).1
  have hat : ∀ i, i ≤ s0.head → s.tr[i]? = s0.tr[i]? := fun i hi => by rw [hl', List.getElem?_append_left (by omega)]
  have hab : a ≠ b := h0.irrefl ha hb ((h0.mem a b ha hb).2 (List.mem_of_getElem? hl))
  refine ⟨by rw [e3]; exact h.lt, by rw [e3]; exact h.nodup, by rw [e1, e3]; exact h.mem, by rw [e1, e2]; exact h.sym, by rw [e2]; exact h.wa, by rw [e1]; exact h.wb, by rw [e1]; exact h.sound, by rw [e1]; exact h.anti, ?_, ?_⟩
  · rw [e3, e4, hl', List.length_append]; omega
  · intro i j x y z hi hj hx hy hz h3 h4
    rw [e4] at hi hj
    rw [e3] at h3 h4
    rw [e1]
    rw [hat i (by omega)] at h3
    rw [hat j (by omega)] at h4
    by_cases ei : i = s0.head
    · subst ei
      rw [hl] at h3
      obtain ⟨rfl, rfl⟩ := lit_inj hb hy (Option.some.inj h3)
      by_cases ej : j = s0.head
      · subst ej
        rw [hl] at h4
        obtain ⟨e, _⟩ := lit_inj hb hz (Option.some.inj h4)
        exact absurd e hab
      · exact hout z hz ((h0.mem _ _ hb hz).2 (List.mem_of_getElem? h4))
    · by_cases ej : j = s0.head
      · subst ej
        rw [hl] at h4
        obtain ⟨rfl, rfl⟩ := lit_inj hb hz (Option.some.inj h4)
        exact hin x hx ((h0.mem _ _ hx ha).2 (List.mem_of_getElem? h3))
      · refine h.closed i j x y z (by omega) (by omega) hx hy hz ?_ ?_
        · rw [hat i (by omega)]; exact h3
        · rw [hat j (by omega)]; exact h4
end Go.Proofs.YbulkbnbgDoor.Pr
