/-
  The transitive closure, and how the check's three loops come to it: no program in sight.
-/
import Derived.Test.YbulkbnbgDoorArcs
namespace Go.Proofs.YbulkbnbgDoor.Pr

/-- THE TRANSITIVE CLOSURE. -/
def Tc (E : Nat → Nat → Prop) (x y : Nat) : Prop := ∀ P : Nat → Nat → Prop, (∀ a b, E a b → P a b) → (∀ a b c, P a b → P b c → P a c) → P x y
theorem Tc.one {E : Nat → Nat → Prop} {x y : Nat} (h : E x y) : Tc E x y := fun _ h1 _ => h1 _ _ h
theorem Tc.trans {E : Nat → Nat → Prop} (x y z : Nat) (h : Tc E x y) (k : Tc E y z) : Tc E x z := fun P h1 h2 => h2 _ _ _ (h P h1 h2) (k P h1 h2)
theorem Tc.mono {E F : Nat → Nat → Prop} (hEF : ∀ a b, E a b → F a b) {x y : Nat} (h : Tc E x y) : Tc F x y := fun P h1 h2 => h P (fun a b he => h1 a b (hEF a b he)) h2

/-- One round of the triple loop over node k, rows before i done and of row i the first j. -/
def fw (r : Nat → Nat → Bool) (k i j : Nat) (x y : Nat) : Bool := if x < i ∨ (x = i ∧ y < j) then r x y || (r x k && r k y) else r x y

theorem fw_row (r : Nat → Nat → Bool) (k i j y : Nat) : fw r k i j k y = r k y := by
  unfold fw
  split
  · cases h : r k y <;> simp
  · rfl
theorem fw_col (r : Nat → Nat → Bool) (k i : Nat) : fw r k i 0 i k = r i k := by
  unfold fw
  rw [if_neg (by omega)]
theorem fw_step (r : Nat → Nat → Bool) (k i j : Nat) (hik : r i k = true) (x y : Nat) : fw r k i (j + 1) x y = if r k j = true ∧ x = i ∧ y = j then true else fw r k i j x y := by
  by_cases h1 : x = i ∧ y = j
  · obtain ⟨rfl, rfl⟩ := h1
    have a1 : fw r k x (y + 1) x y = (r x y || (r x k && r k y)) := if_pos (Or.inr ⟨rfl, by omega⟩)
    have a2 : fw r k x y x y = r x y := if_neg (by omega)
    rw [a1, a2, hik]
    cases r k y <;> simp
  · have a0 : (if r k j = true ∧ x = i ∧ y = j then true else fw r k i j x y) = fw r k i j x y := if_neg (fun h => h1 h.2)
    rw [a0]
    unfold fw
    by_cases h3 : x < i ∨ (x = i ∧ y < j)
    · rw [if_pos (by omega), if_pos h3]
    · rw [if_neg (by omega), if_neg h3]
theorem fw_skip (r : Nat → Nat → Bool) (k i : Nat) (hik : r i k = false) (x y : Nat) : fw r k (i + 1) 0 x y = fw r k i 0 x y := by
  unfold fw
  by_cases h1 : x = i
  · subst h1
    rw [if_pos (by omega), if_neg (by omega), hik]; simp
  · by_cases h3 : x < i
    · rw [if_pos (by omega), if_pos (by omega)]
    · rw [if_neg (by omega), if_neg (by omega)]
theorem fw_next (r : Nat → Nat → Bool) (k i n : Nat) (x y : Nat) (hy : y < n) : fw r k (i + 1) 0 x y = fw r k i n x y := by
  unfold fw
  by_cases h1 : x = i
  · subst h1
    rw [if_pos (by omega), if_pos (by omega)]
  · by_cases h3 : x < i
    · rw [if_pos (by omega), if_pos (by omega)]
    · rw [if_neg (by omega), if_neg (by omega)]
theorem fw_zero (r : Nat → Nat → Bool) (k : Nat) (x y : Nat) : fw r k 0 0 x y = r x y := by
  unfold fw
  rw [if_neg (by omega)]
theorem fw_full (r : Nat → Nat → Bool) (k n : Nat) (x y : Nat) (hx : x < n) : fw r k n 0 x y = (r x y || (r x k && r k y)) := by
  unfold fw
  rw [if_pos (Or.inl hx)]

/-- What holds before round k. -/
structure Fw (n : Nat) (E : Nat → Nat → Prop) (k : Nat) (r : Nat → Nat → Bool) : Prop where
  sound : ∀ x y, x < n → y < n → r x y = true → Tc E x y
  has : ∀ x y, E x y → r x y = true
  closed : ∀ m x y, m < k → m < n → x < n → y < n → r x m = true → r m y = true → r x y = true

theorem Fw.congr {n : Nat} {E : Nat → Nat → Prop} {k : Nat} {r r' : Nat → Nat → Bool} (hE : ∀ x y, E x y → x < n ∧ y < n) (h : Fw n E k r) (e : ∀ x y, x < n → y < n → r x y = r' x y) : Fw n E k r' :=
  ⟨fun x y hx hy hr => h.sound x y hx hy (by rw [e x y hx hy]; exact hr), fun x y hxy => by rw [← e x y (hE x y hxy).1 (hE x y hxy).2]; exact h.has x y hxy, fun m x y hm hmn hx hy h1 h2 => by
    rw [← e x y hx hy]
    exact h.closed m x y hm hmn hx hy (by rw [e x m hx hmn]; exact h1) (by rw [e m y hmn hy]; exact h2)⟩

theorem Fw.round {n : Nat} {E : Nat → Nat → Prop} {k : Nat} {r : Nat → Nat → Bool} (h : Fw n E k r) (hk : k < n) : Fw n E (k + 1) (fun x y => r x y || (r x k && r k y)) := by
  refine ⟨fun x y hx hy hr => ?_, fun x y hxy => by simp [h.has x y hxy], fun m x y hm hmn hx hy h1 h2 => ?_⟩
  · simp only [Bool.or_eq_true, Bool.and_eq_true] at hr
    rcases hr with hr | ⟨h1, h2⟩
    · exact h.sound x y hx hy hr
    · exact Tc.trans x k y (h.sound x k hx hk h1) (h.sound k y hk hy h2)
  · simp only [Bool.or_eq_true, Bool.and_eq_true] at h1 h2 ⊢
    by_cases e : m = k
    · subst e
      have a1 : r x m = true := h1.elim id (·.1)
      have a2 : r m y = true := h2.elim id (·.2)
      exact Or.inr ⟨a1, a2⟩
    · have hm' : m < k := by omega
      rcases h1 with h1 | ⟨h1, h1'⟩
      · rcases h2 with h2 | ⟨h2, h2'⟩
        · exact Or.inl (h.closed m x y hm' hmn hx hy h1 h2)
        · exact Or.inr ⟨h.closed m x k hm' hmn hx hk h1 h2, h2'⟩
      · rcases h2 with h2 | ⟨h2, h2'⟩
        · exact Or.inr ⟨h1, h.closed m k y hm' hmn hk hy h1' h2⟩
        · exact Or.inr ⟨h1, h2'⟩

theorem Fw.done {n : Nat} {E : Nat → Nat → Prop} (hE : ∀ x y, E x y → x < n ∧ y < n) {r : Nat → Nat → Bool} (h : Fw n E n r) {x y : Nat} (hx : x < n) (hy : y < n) : r x y = true ↔ Tc E x y := by
  refine ⟨h.sound x y hx hy, fun ht => ?_⟩
  have := ht (fun a b => r a b = true ∧ a < n ∧ b < n) (fun a b hab => ⟨h.has a b hab, hE a b hab⟩) (fun a b d h1 h2 => ⟨h.closed b a d h1.2.2 h1.2.2 h1.2.1 h2.2.2 h1.1 h2.1, h1.2.1, h2.2.2⟩)
  exact this.1

/-! ### The search's own closure -/
theorem Live.closure {c : Cfg} {E : Nat → Nat → Prop} {s : PS} {w : World} (hL : Live c (Tc E) s w) (hE : ∀ x y, E x y → x < c.n ∧ y < c.n) (hR : ∀ x y, E x y → R c s.Mb x y = true) {x y : Nat} (hx : x < c.n) (hy : y < c.n) : R c s.Mb x y = true ↔ Tc E x y := by
  refine ⟨hL.inv.sound x y hx hy, fun ht => ?_⟩
  have := ht (fun a b => R c s.Mb a b = true ∧ a < c.n ∧ b < c.n) (fun a b hab => ⟨hR a b hab, hE a b hab⟩) (fun a b d h1 h2 => ⟨?_, h1.2.1, h2.2.2⟩)
  · exact this.1
  · have m1 := (hL.inv.mem a b h1.2.1 h1.2.2).1 h1.1
    have m2 := (hL.inv.mem b d h2.2.1 h2.2.2).1 h2.1
    obtain ⟨i, hi, ei⟩ := List.getElem_of_mem m1
    obtain ⟨j, hj, ej⟩ := List.getElem_of_mem m2
    exact hL.inv.closed i j a b d (by rw [hL.hd]; exact hi) (by rw [hL.hd]; exact hj) h1.2.1 h1.2.2 h2.2.2 (by rw [List.getElem?_eq_getElem hi, ei]) (by rw [List.getElem?_eq_getElem hj, ej])

theorem Live.acyclic {c : Cfg} {E : Nat → Nat → Prop} {s : PS} {w : World} (hL : Live c (Tc E) s w) (hE : ∀ x y, E x y → x < c.n ∧ y < c.n) (hR : ∀ x y, E x y → R c s.Mb x y = true) {x : Nat} (hx : x < c.n) : ¬ Tc E x x := by
  intro ht
  have h := (hL.closure hE hR hx hx).2 ht
  exact hL.inv.irrefl hx hx h rfl

/-- A cycle lies among the nodes. -/
theorem Tc.lt {n : Nat} {E : Nat → Nat → Prop} (hE : ∀ x y, E x y → x < n ∧ y < n) {x y : Nat} (h : Tc E x y) : x < n ∧ y < n :=
  h (fun a b => a < n ∧ b < n) hE (fun _ _ _ h1 h2 => ⟨h1.1, h2.2⟩)

/-! ### The trail counts the closure -/
def cntRow (q : Nat → Nat → Bool) (a : Nat) : Nat → Nat
  | 0 => 0
  | b + 1 => cntRow q a b + if q a b then 1 else 0
def cnt (q : Nat → Nat → Bool) (n : Nat) : Nat → Nat
  | 0 => 0
  | a + 1 => cnt q n a + cntRow q a n

theorem range_count (p : Nat → Bool) : ∀ n, (List.range (n + 1)).countP p = (List.range n).countP p + if p n then 1 else 0 := by
  intro n
  rw [List.range_succ, List.countP_append]
  simp [List.countP_cons]

theorem cntRow_eq (q : Nat → Nat → Bool) (a n : Nat) (hn : 0 < n) (p : Nat → Bool) (hp : ∀ y, y < n → p (a * n + y) = q a y) : ∀ b, b ≤ n → (List.range (a * n + b)).countP p = (List.range (a * n)).countP p + cntRow q a b
  | 0, _ => by simp [cntRow]
  | b + 1, hb => by
    have := cntRow_eq q a n hn p hp b (by omega)
    rw [← Nat.add_assoc, range_count, this, hp b (by omega), cntRow]
    omega
theorem cnt_eq (q : Nat → Nat → Bool) (n : Nat) (hn : 0 < n) (p : Nat → Bool) (hp : ∀ x y, x < n → y < n → p (x * n + y) = q x y) : ∀ a, a ≤ n → (List.range (a * n)).countP p = cnt q n a
  | 0, _ => by simp [cnt]
  | a + 1, ha => by
    have h1 := cnt_eq q n hn p hp a (by omega)
    have h2 := cntRow_eq q a n hn p (fun y hy => hp a y (by omega) hy) n (Nat.le_refl _)
    rw [Nat.succ_mul, h2, h1, cnt]

theorem nodup_count (l : List Nat) (N : Nat) (hd : l.Nodup) (hlt : ∀ x ∈ l, x < N) : (List.range N).countP (fun x => decide (x ∈ l)) = l.length := by
  have h1 : ((List.range N).filter fun x => decide (x ∈ l)).Perm l := by
    refine (List.perm_ext_iff_of_nodup (List.nodup_range.filter _) hd).2 fun x => ?_
    simp only [List.mem_filter, List.mem_range, decide_eq_true_eq]
    exact ⟨fun h => h.2, fun h => ⟨hlt x h, h⟩⟩
  rw [List.countP_eq_length_filter]
  exact h1.length_eq

theorem Inv.count {c : Cfg} {T : Nat → Nat → Prop} {s : PS} (h : Inv c T s) (hc : c.Ok) (q : Nat → Nat → Bool) (hq : ∀ x y, x < c.n → y < c.n → R c s.Mb x y = q x y) : s.tr.length = cnt q c.n c.n := by
  rw [← cnt_eq q c.n hc.n1 (fun x => decide (x ∈ s.tr)) (fun x y hx hy => ?_) c.n (Nat.le_refl _)]
  · exact (nodup_count s.tr _ h.nodup h.lt).symm
  · rw [← hq x y hx hy]
    have := h.mem x y hx hy
    cases hb : R c s.Mb x y with
    | true => simpa using this.1 hb
    | false =>
      simp only [decide_eq_false_iff_not]
      intro hm
      have := this.2 hm
      rw [hb] at this; cases this
end Go.Proofs.YbulkbnbgDoor.Pr
