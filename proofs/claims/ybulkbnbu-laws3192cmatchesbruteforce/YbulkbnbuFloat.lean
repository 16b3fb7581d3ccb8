/-
  Whole numbers as doubles: the words of the naturals below 2^53; sums and comparisons of such words are exact. Plain: no Go in sight.
-/
import Ieee.Arith
namespace Go.Proofs.Ybulkbnbu.Fl
open Ieee

/-- The word of a whole number. -/
def W (m : Nat) : Nat := double.nearest false m 0

/-- A cut that drops only noughts. -/
theorem cut_exact (m d : Nat) (b : Bool) (hm : 0 < m) : Toward.even.cut b (m * 2 ^ d) d = m := by
  have hp : 0 < 2 ^ d := Nat.two_pow_pos d
  have hl : d ≤ (m * 2 ^ d).log2 := by
    rw [Nat.le_log2 (Nat.ne_of_gt (Nat.mul_pos hm hp))]
    exact Nat.le_mul_of_pos_left _ hm
  have hg : min d ((m * 2 ^ d).log2 + 2) = d := by omega
  unfold Toward.cut
  simp only [hg, Nat.one_shiftLeft]
  rw [Nat.mul_div_cancel _ hp, Nat.mul_mod_left]
  have h2 : (2 ^ d == 2 * 0) = false := by simp
  simp

theorem log2_scale (m s : Nat) (hm : 0 < m) : (m * 2 ^ s).log2 = m.log2 + s := by
  have hp : 0 < 2 ^ s := Nat.two_pow_pos s
  have h1 := Nat.log2_self_le (Nat.ne_of_gt hm)
  have h2 := Nat.lt_log2_self (n := m)
  have hne : m * 2 ^ s ≠ 0 := Nat.ne_of_gt (Nat.mul_pos hm hp)
  apply Nat.le_antisymm
  · have : (m * 2 ^ s).log2 < m.log2 + s + 1 := by
      rw [Nat.log2_lt hne, show m.log2 + s + 1 = (m.log2 + 1) + s by omega, Nat.pow_add]
      exact Nat.mul_lt_mul_of_pos_right h2 hp
    omega
  · rw [Nat.le_log2 hne, Nat.pow_add]
    exact Nat.mul_le_mul_right _ h1

theorem log2_le (m : Nat) (hm : 0 < m) (h : m < 2 ^ 53) : m.log2 ≤ 52 := by
  have : m.log2 < 53 := (Nat.log2_lt (Nat.ne_of_gt hm)).2 h
  omega

/-- The word of m, whatever the scale at which it is written. -/
theorem nearest_scale (m s : Nat) (hm : 0 < m) (h : m < 2 ^ 53) :
    double.nearest false (m * 2 ^ s) (-(s : Int)) = (m.log2 + 1022) * 2 ^ 52 + m * 2 ^ (52 - m.log2) := by
  have hp : 0 < 2 ^ s := Nat.two_pow_pos s
  have hL := log2_le m hm h
  have hlp : double.leastPlace = -1074 := by decide
  have hlast : max (-(s : Int) + (((m * 2 ^ s).log2 : Nat) : Int) - (double.fractionBits : Int)) double.leastPlace = (m.log2 : Int) - 52 := by
    rw [log2_scale m s hm, hlp]
    show max (-(s : Int) + ((m.log2 + s : Nat) : Int) - 52) (-1074) = _
    omega
  unfold Format.nearest
  rw [if_neg (Nat.ne_of_gt (Nat.mul_pos hm hp))]
  simp only [hlast]
  have hk : Toward.even.cut false ((m * 2 ^ s) <<< ((-(s : Int)) - ((m.log2 : Int) - 52)).toNat) (((m.log2 : Int) - 52) - (-(s : Int))).toNat = m * 2 ^ (52 - m.log2) := by
    by_cases hc : s + m.log2 ≤ 52
    · have e1 : ((-(s : Int)) - ((m.log2 : Int) - 52)).toNat = 52 - m.log2 - s := by omega
      have e2 : (((m.log2 : Int) - 52) - (-(s : Int))).toNat = 0 := by omega
      rw [e1, e2, Nat.shiftLeft_eq, Nat.mul_assoc, ← Nat.pow_add, show s + (52 - m.log2 - s) = 52 - m.log2 by omega]
      have := cut_exact (m * 2 ^ (52 - m.log2)) 0 false (Nat.mul_pos hm (Nat.two_pow_pos _))
      simpa using this
    · have e1 : ((-(s : Int)) - ((m.log2 : Int) - 52)).toNat = 0 := by omega
      have e2 : (((m.log2 : Int) - 52) - (-(s : Int))).toNat = m.log2 + s - 52 := by omega
      rw [e1, e2, Nat.shiftLeft_zero]
      have e3 : m * 2 ^ s = (m * 2 ^ (52 - m.log2)) * 2 ^ (m.log2 + s - 52) := by
        rw [Nat.mul_assoc, ← Nat.pow_add]
        congr 2
        omega
      rw [e3]
      exact cut_exact _ _ _ (Nat.mul_pos hm (Nat.two_pow_pos _))
  rw [hk]
  have e4 : (((m.log2 : Int) - 52) - double.leastPlace).toNat = m.log2 + 1022 := by rw [hlp]; omega
  rw [e4]
  have hb : double.binade = 2 ^ 52 := rfl
  have hi : double.infRung = 2047 * 2 ^ 52 := rfl
  rw [hb, hi]
  have hkl : m * 2 ^ (52 - m.log2) < 2 * 2 ^ 52 := by
    have h2 := Nat.lt_log2_self (n := m)
    have : m * 2 ^ (52 - m.log2) < 2 ^ (m.log2 + 1) * 2 ^ (52 - m.log2) := Nat.mul_lt_mul_of_pos_right h2 (Nat.two_pow_pos _)
    rw [← Nat.pow_add, show m.log2 + 1 + (52 - m.log2) = 53 by omega] at this
    exact this
  rw [Nat.min_eq_left (by omega)]
  rfl

theorem W_pos (m : Nat) (hm : 0 < m) (h : m < 2 ^ 53) : W m = (m.log2 + 1022) * 2 ^ 52 + m * 2 ^ (52 - m.log2) := by
  have := nearest_scale m 0 hm h
  simpa [W] using this

theorem W_zero : W 0 = 0 := rfl

/-- What the word of m reads as. -/
theorem read_W (m : Nat) (h : m < 2 ^ 53) : ∃ s : Nat, double.read (W m) = .number false (m * 2 ^ s) (-(s : Int)) := by
  by_cases hm : 0 < m
  · refine ⟨52 - m.log2, ?_⟩
    have hL := log2_le m hm h
    have hlo : 2 ^ 52 ≤ m * 2 ^ (52 - m.log2) := by
      have h1 := Nat.log2_self_le (Nat.ne_of_gt hm)
      have : 2 ^ m.log2 * 2 ^ (52 - m.log2) ≤ m * 2 ^ (52 - m.log2) := Nat.mul_le_mul_right _ h1
      rwa [← Nat.pow_add, show m.log2 + (52 - m.log2) = 52 by omega] at this
    have hhi : m * 2 ^ (52 - m.log2) < 2 * 2 ^ 52 := by
      have h2 := Nat.lt_log2_self (n := m)
      have : m * 2 ^ (52 - m.log2) < 2 ^ (m.log2 + 1) * 2 ^ (52 - m.log2) := Nat.mul_lt_mul_of_pos_right h2 (Nat.two_pow_pos _)
      rwa [← Nat.pow_add, show m.log2 + 1 + (52 - m.log2) = 53 by omega] at this
    rw [W_pos m hm h]
    generalize hk : m * 2 ^ (52 - m.log2) = k at *
    generalize hl : m.log2 = L at *
    have hb : double.binade = 4503599627370496 := rfl
    have hi : double.infRung = 2047 * 4503599627370496 := rfl
    have hw : double.signWeight = 9223372036854775808 := rfl
    have hlp : double.leastPlace = -1074 := by decide
    have hp52 : (2 : Nat) ^ 52 = 4503599627370496 := by decide
    rw [hp52] at hlo hhi ⊢
    unfold Format.read
    simp only [hb, hi, hw, hlp]
    have e0 : ((L + 1022) * 4503599627370496 + k) / 9223372036854775808 = 0 := Nat.div_eq_of_lt (by omega)
    have e1 : ((L + 1022) * 4503599627370496 + k) % 9223372036854775808 = (L + 1022) * 4503599627370496 + k := Nat.mod_eq_of_lt (by omega)
    rw [e0, e1, if_neg (by omega), if_pos (by omega)]
    have e2 : ((L + 1022) * 4503599627370496 + k) % 4503599627370496 = k - 4503599627370496 := by omega
    have e3 : ((L + 1022) * 4503599627370496 + k) / 4503599627370496 = L + 1023 := by omega
    rw [e2, e3]
    have e4 : 4503599627370496 + (k - 4503599627370496) = k := by omega
    rw [e4]
    have e5 : (-1074 : Int) + ((L + 1023 - 1 : Nat) : Int) = -((52 - L : Nat) : Int) := by omega
    rw [e5]
    rfl
  · obtain rfl : m = 0 := by omega
    obtain ⟨s, hs⟩ : ∃ s : Nat, s = 1074 := ⟨_, rfl⟩
    refine ⟨s, ?_⟩
    rw [Nat.zero_mul, W_zero, hs]
    decide

theorem shl (m s t : Nat) : (m * 2 ^ s) <<< t = m * 2 ^ (s + t) := by rw [Nat.shiftLeft_eq, Nat.mul_assoc, ← Nat.pow_add]

/-- Sums of whole numbers are exact. -/
theorem add_W (a b : Nat) (h : a + b < 2 ^ 53) : double.add (W a) (W b) = some (W (a + b)) := by
  obtain ⟨s, ra⟩ := read_W a (by omega)
  obtain ⟨t, rb⟩ := read_W b (by omega)
  unfold Format.add
  rw [ra, rb]
  simp only [Datum.sum, Option.map_some, signed, Bool.false_eq_true, if_false, shl]
  have hmin : min (-(s : Int)) (-(t : Int)) = -((max s t : Nat) : Int) := by omega
  rw [hmin]
  have e1 : s + (-(s : Int) - -((max s t : Nat) : Int)).toNat = max s t := by omega
  have e2 : t + (-(t : Int) - -((max s t : Nat) : Int)).toNat = max s t := by omega
  rw [e1, e2]
  have hsum : ((a * 2 ^ max s t : Nat) : Int) + ((b * 2 ^ max s t : Nat) : Int) = (((a + b) * 2 ^ max s t : Nat) : Int) := by
    rw [Nat.add_mul]; omega
  rw [hsum]
  by_cases h0 : a + b = 0
  · obtain ⟨rfl, rfl⟩ : a = 0 ∧ b = 0 := by omega
    simp [Format.write, Format.nearest, W]
  · have hpos : 0 < (a + b) * 2 ^ max s t := Nat.mul_pos (by omega) (Nat.two_pow_pos _)
    rw [if_neg (by omega), Int.natAbs_natCast]
    have hn : decide ((((a + b) * 2 ^ max s t : Nat) : Int) < 0) = false := decide_eq_false (by omega)
    rw [hn]
    simp only [Format.write]
    rw [nearest_scale (a + b) (max s t) (by omega) h, W_pos (a + b) (by omega) h]

/-- Whole numbers compare as they are. -/
theorem order_W (a b : Nat) (ha : a < 2 ^ 53) (hb : b < 2 ^ 53) : double.order (W a) (W b) = some (compare a b) := by
  obtain ⟨s, ra⟩ := read_W a ha
  obtain ⟨t, rb⟩ := read_W b hb
  unfold Format.order
  rw [ra, rb]
  simp only [Datum.order, signed, Bool.false_eq_true, if_false, shl]
  have hmin : min (-(s : Int)) (-(t : Int)) = -((max s t : Nat) : Int) := by omega
  rw [hmin]
  have e1 : s + (-(s : Int) - -((max s t : Nat) : Int)).toNat = max s t := by omega
  have e2 : t + (-(t : Int) - -((max s t : Nat) : Int)).toNat = max s t := by omega
  rw [e1, e2]
  have hp : 0 < 2 ^ max s t := Nat.two_pow_pos _
  congr 1
  rcases Nat.lt_trichotomy a b with h | h | h
  · rw [Nat.compare_eq_lt.2 h]
    have := Nat.mul_lt_mul_of_pos_right h hp
    exact Int.compare_eq_lt.2 (by exact_mod_cast this)
  · subst h; simp
  · rw [Nat.compare_eq_gt.2 h]
    have := Nat.mul_lt_mul_of_pos_right h hp
    exact Int.compare_eq_gt.2 (by exact_mod_cast this)
end Go.Proofs.Ybulkbnbu.Fl
