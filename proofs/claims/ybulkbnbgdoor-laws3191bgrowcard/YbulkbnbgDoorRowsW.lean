/-
  'propagate' (function 12): the loops over a row's words.
-/
import Derived.Test.YbulkbnbgDoorProp
namespace Go.Proofs.YbulkbnbgDoor.Pr
set_option linter.unusedSimpArgs false
open Go.ChangeShapes Go.WideShapes Go.ChangeAt Go.RowKit

/-- A row of a matrix, as a slice. -/
def rowV (c : Cfg) (B a : Nat) : Value := .slice (some ⟨B, a * c.words, none⟩) c.words (c.n * c.words - a * c.words)

theorem andNot_test (m q t : Nat) (hq : q < 18446744073709551616) (ht : t < 64) : (m &&& (18446744073709551615 - q)).testBit t = (m.testBit t && !q.testBit t) := by
  have e : (18446744073709551615 - q) = 2 ^ 64 - (q + 1) := by
    have : (2 : Nat) ^ 64 = 18446744073709551616 := by decide
    omega
  rw [Nat.testBit_and, e, Nat.testBit_two_pow_sub_succ (by have : (2 : Nat) ^ 64 = 18446744073709551616 := by decide
                                                           omega)]
  simp [ht]

theorem R_word {c : Cfg} (M : Nat → Nat) (a k t : Nat) (ht : t < 64) : R c M a (k * 64 + t) = (M (a * c.words + k)).testBit t := by
  unfold R at_
  have e1 : (k * 64 + t) / 64 = k := by omega
  have e2 : (k * 64 + t) % 64 = t := by omega
  rw [e1, e2]

/-- The frame that stays while a row's words are gone through. -/
def Fy1 (c : Cfg) (v5 : Value) (a b k : Nat) (f : Act) : Prop :=
  f.tmps.size = 195 ∧ f.defers = [] ∧ f.tmps[0]?.getD undef = .pointer (some ⟨c.P, 0, none⟩) ∧ f.tmps[3]?.getD undef = .int .i64 (c.n : Int) ∧ f.tmps[4]?.getD undef = .int .i64 (c.words : Int) ∧
  f.tmps[5]?.getD undef = v5 ∧ f.tmps[6]?.getD undef = .int .i64 (a : Int) ∧ f.tmps[7]?.getD undef = .int .i64 (b : Int) ∧ f.tmps[8]?.getD undef = rowV c c.Af a ∧ f.tmps[9]?.getD undef = rowV c c.Af b ∧
  f.tmps[92]?.getD undef = .int .i64 (c.words : Int) ∧ f.tmps[93]?.getD undef = .int .i64 (k : Int)

/-- What holds when the first k words are done. -/
def Row1 (c : Cfg) (T : Nat → Nat → Prop) (hd : Nat) (s1 : PS) (w1 : World) (a b k : Nat) (w : World) : Prop :=
  ∃ s, Pk c T hd s1 w1 s w ∧ ∀ x, x < c.n → x < k * 64 → R c s1.Mb x a = true → R c s.Mb x b = true

def J1 (c : Cfg) (T : Nat → Nat → Prop) (hd : Nat) (s1 : PS) (w1 : World) (v5 : Value) (a b : Nat) (n : Nat) (f : Act) (w : World) : Prop :=
  ∃ k, k ≤ c.words ∧ n = c.words - k ∧ Fy1 c v5 a b k f ∧ Row1 c T hd s1 w1 a b k w

set_option maxRecDepth 100000 in
set_option maxHeartbeats 2000000 in
theorem row1 {Q : Exit → Act → World → Prop} (c : Cfg) (T : Nat → Nat → Prop) (htrans : ∀ x y z, T x y → T y z → T x z) (hd : Nat) (s1 : PS) (w1 : World) (v5 : Value) (a b : Nat) (ha : a < c.n) (hb : b < c.n)
    (hRab : R c s1.Mb a b = true) (f : Act) (w : World) (hF : Fy1 c v5 a b 0 f) (hR : Row1 c T hd s1 w1 a b 0 w)
    (hnext : ∀ f' w' s', f'.tmps.size = 195 → f'.defers = [] → f'.tmps[0]?.getD undef = .pointer (some ⟨c.P, 0, none⟩) → f'.tmps[3]?.getD undef = .int .i64 (c.n : Int) → f'.tmps[4]?.getD undef = .int .i64 (c.words : Int) →
      f'.tmps[5]?.getD undef = v5 → f'.tmps[6]?.getD undef = .int .i64 (a : Int) → f'.tmps[7]?.getD undef = .int .i64 (b : Int) → Pk c T hd s1 w1 s' w' → (∀ x, x < c.n → R c s1.Mb x a = true → R c s'.Mb x b = true) → Q (.exit 2) f' w')
    (hret : ∀ f' w', f'.tmps.size = 195 → f'.defers = [] → f'.tmps[2]?.getD undef = .bool true → Broke c T s1 w1 w' → Q .ret f' w') :
    Code.wp Ybad.prog ((Ybad.f12.body.bind (blk 2)).getD .skip) Q f w := by
  conv => arg 2; whnf
  refine wp_loop_ghost (J1 c T hd s1 w1 v5 a b) c.words ⟨0, Nat.zero_le _, rfl, hF, hR⟩ ?_
  intro n f w hI
  obtain ⟨k, hkw, rfl, ⟨hsz, hds, e0, e3, e4, e5, e6, e7, e8, e9, ebd, eix⟩, s, hPk, hpr⟩ := hI
  obtain ⟨g, hg⟩ : ∃ g : Nat → Value, ∀ t, f.tmps[t]?.getD undef = g t := ⟨_, fun _ => rfl⟩
  rw [hg] at e0 e3 e4 e5 e6 e7 e8 e9 ebd eix
  rw [lit195 f g hg hsz hds, e0, e3, e4, e5, e6, e7, e8, e9, ebd, eix]
  clear hg hsz hds e0 e3 e4 e5 e6 e7 e8 e9 ebd eix hF hR
  have hok := hPk.st.ok
  have hn2 := hok.n80
  have hw2 := hok.w2
  have hfit := hok.fits
  by_cases hlt : k < c.words
  · have hia : a * c.words + k < c.n * c.words := by
      have := Nat.mul_le_mul_right c.words (show a + 1 ≤ c.n by omega)
      rw [Nat.succ_mul] at this
      omega
    have hib : b * c.words + k < c.n * c.words := by
      have := Nat.mul_le_mul_right c.words (show b + 1 ≤ c.n by omega)
      rw [Nat.succ_mul] at this
      omega
    have hca := hPk.st.a.cell hia
    have hcb := hPk.st.a.cell hib
    have HX : Hid (_) := u64_andNot_nat (s.Ma (a * c.words + k)) (s.Ma (b * c.words + k)) (hPk.st.ma _) (hPk.st.ma _)
    have hxlt : s.Ma (a * c.words + k) &&& (18446744073709551615 - s.Ma (b * c.words + k)) < 18446744073709551616 := by
      have := @Nat.and_le_left (s.Ma (a * c.words + k)) (18446744073709551615 - s.Ma (b * c.words + k))
      have := hPk.st.ma (a * c.words + k)
      omega
    have HB : Hid (Bits1 c T hd s1 w1 s.Mb a b k (s.Ma (a * c.words + k) &&& (18446744073709551615 - s.Ma (b * c.words + k))) w) := by
      refine ⟨hxlt, s, hPk, fun _ _ _ h => h, fun t ht hbt => ?_, fun t ht htn hr => ?_⟩
      · rw [andNot_test _ _ _ (hPk.st.ma _) ht, Bool.and_eq_true] at hbt
        have hlt' := hPk.inv.wa a k t ha hlt ht hbt.1
        refine ⟨hlt', ?_⟩
        have h2 := hPk.inv.sym (k * 64 + t) a hlt' ha
        rw [← R_word s.Ma a k t ht] at hbt
        rw [← h2]; exact hbt.1
      · rw [andNot_test _ _ _ (hPk.st.ma _) ht]
        have hr' := hPk.ext.mono _ _ ha hr
        have h2 := hPk.inv.sym (k * 64 + t) a htn ha
        have h3 := hPk.inv.sym (k * 64 + t) b htn hb
        rw [← R_word s.Ma a k t ht, ← R_word s.Ma b k t ht]
        rw [show R c s.Ma a (k * 64 + t) = true from h2.trans hr']
        have h4 : R c s.Ma b (k * 64 + t) = R c s.Mb (k * 64 + t) b := h3
        rw [h4]
        cases R c s.Mb (k * 64 + t) b <;> simp
    have hk0 : (0 : Int) ≤ (k : Int) := by omega
    have hk1 : (k : Int) < (c.words : Int) := by omega
    unfold rowV
    have HPR : Hid (_) := hpr
    have HPk : Hid (_) := hPk
    clear hPk hpr
    go_wp2_with fail
    go_quiet (fail)
    go_wp2_with fail
    refine word1 (Q := _) c T htrans hd s1 w1 s.Mb v5 (rowV c c.Af a) (rowV c c.Af b) a b k (s.Ma (a * c.words + k) &&& (18446744073709551615 - s.Ma (b * c.words + k))) ha hb hlt hRab _ _ ?_ ?_ ?_
    · refine ⟨⟨rfl, rfl, rfl, rfl, rfl, rfl, rfl, rfl, rfl, rfl, rfl, rfl, rfl⟩, congrArg (Value.int .u64) HX.out, ?_⟩
      obtain ⟨h1, s', h2, h3⟩ := HB.out
      exact ⟨h1, s', h2.drewN _, h3⟩
    · intro f' w' hF' hB'
      obtain ⟨hsz, hds, e0, e3, e4, e5, e6, e7, e8, e9, ek, ebd, eix⟩ := hF'
      obtain ⟨_, s', hPk', hmn, _, hdn⟩ := hB'
      have HR' : Hid (Row1 c T hd s1 w1 a b (k + 1) w') := by
        refine ⟨s', hPk', fun x hx hxk hr => ?_⟩
        by_cases hxo : x < k * 64
        · exact hmn _ _ hb (HPR.out x hx hxo hr)
        · have e : k * 64 + (x - k * 64) = x := by omega
          have := hdn (x - k * 64) (by omega) (by omega) (by rw [e]; exact hr)
          rw [e] at this
          rcases this with h | h
          · simp at h
          · exact h
      obtain ⟨g', hg'⟩ : ∃ g : Nat → Value, ∀ t, f'.tmps[t]?.getD undef = g t := ⟨_, fun _ => rfl⟩
      rw [hg'] at e0 e3 e4 e5 e6 e7 e8 e9 ek ebd eix
      rw [lit195 f' g' hg' hsz hds, e0, e3, e4, e5, e6, e7, e8, e9, ebd, eix]
      clear hg' hsz hds e0 e3 e4 e5 e6 e7 e8 e9 ebd eix ek hPk' hdn hmn hca hcb HX HB HPk
      go_wp2_with fail
      refine ⟨_, ?_, k + 1, by omega, rfl, ⟨rfl, rfl, rfl, rfl, rfl, rfl, rfl, rfl, rfl, rfl, rfl, by first | rfl | go_num⟩, HR'.out⟩
      omega
    · intro f' w' h1 h2 h3 h4
      exact hret f' w' h1 h2 h3 h4
  · obtain rfl : k = c.words := by omega
    have HPk : Hid (_) := hPk
    have HPR : Hid (∀ x, x < c.n → R c s1.Mb x a = true → R c s.Mb x b = true) := fun x hx h => hpr x hx (by omega) h
    clear hPk hpr
    go_wp2_with fail
    exact hnext _ _ s rfl rfl rfl rfl rfl rfl rfl rfl HPk.out HPR.out

/-- The frame that stays while a row's words are gone through. -/
def Fy2 (c : Cfg) (v5 : Value) (a b k : Nat) (f : Act) : Prop :=
  f.tmps.size = 195 ∧ f.defers = [] ∧ f.tmps[0]?.getD undef = .pointer (some ⟨c.P, 0, none⟩) ∧ f.tmps[3]?.getD undef = .int .i64 (c.n : Int) ∧ f.tmps[4]?.getD undef = .int .i64 (c.words : Int) ∧
  f.tmps[5]?.getD undef = v5 ∧ f.tmps[6]?.getD undef = .int .i64 (a : Int) ∧ f.tmps[7]?.getD undef = .int .i64 (b : Int) ∧ f.tmps[8]?.getD undef = rowV c c.Bf a ∧ f.tmps[9]?.getD undef = rowV c c.Bf b ∧
  f.tmps[154]?.getD undef = .int .i64 (c.words : Int) ∧ f.tmps[155]?.getD undef = .int .i64 (k : Int)

/-- What holds when the first k words are done. -/
def Row2 (c : Cfg) (T : Nat → Nat → Prop) (hd : Nat) (s1 : PS) (w1 : World) (a b k : Nat) (w : World) : Prop :=
  ∃ s, Pk c T hd s1 w1 s w ∧ ∀ x, x < c.n → x < k * 64 → R c s1.Mb b x = true → R c s.Mb a x = true

def J2 (c : Cfg) (T : Nat → Nat → Prop) (hd : Nat) (s1 : PS) (w1 : World) (v5 : Value) (a b : Nat) (n : Nat) (f : Act) (w : World) : Prop :=
  ∃ k, k ≤ c.words ∧ n = c.words - k ∧ Fy2 c v5 a b k f ∧ Row2 c T hd s1 w1 a b k w

set_option maxRecDepth 100000 in
set_option maxHeartbeats 2000000 in
theorem row2 {Q : Exit → Act → World → Prop} (c : Cfg) (T : Nat → Nat → Prop) (htrans : ∀ x y z, T x y → T y z → T x z) (hd : Nat) (s1 : PS) (w1 : World) (v5 : Value) (a b : Nat) (ha : a < c.n) (hb : b < c.n)
    (hRab : R c s1.Mb a b = true) (f : Act) (w : World) (hF : Fy2 c v5 a b 0 f) (hR : Row2 c T hd s1 w1 a b 0 w)
    (hnext : ∀ f' w' s', f'.tmps.size = 195 → f'.defers = [] → f'.tmps[0]?.getD undef = .pointer (some ⟨c.P, 0, none⟩) → f'.tmps[3]?.getD undef = .int .i64 (c.n : Int) → f'.tmps[4]?.getD undef = .int .i64 (c.words : Int) →
      f'.tmps[5]?.getD undef = v5 → f'.tmps[6]?.getD undef = .int .i64 (a : Int) → f'.tmps[7]?.getD undef = .int .i64 (b : Int) → Pk c T hd s1 w1 s' w' → (∀ x, x < c.n → R c s1.Mb b x = true → R c s'.Mb a x = true) → Q (.exit 6) f' w')
    (hret : ∀ f' w', f'.tmps.size = 195 → f'.defers = [] → f'.tmps[2]?.getD undef = .bool true → Broke c T s1 w1 w' → Q .ret f' w') :
    Code.wp Ybad.prog ((Ybad.f12.body.bind (blk 6)).getD .skip) Q f w := by
  conv => arg 2; whnf
  refine wp_loop_ghost (J2 c T hd s1 w1 v5 a b) c.words ⟨0, Nat.zero_le _, rfl, hF, hR⟩ ?_
  intro n f w hI
  obtain ⟨k, hkw, rfl, ⟨hsz, hds, e0, e3, e4, e5, e6, e7, e8, e9, ebd, eix⟩, s, hPk, hpr⟩ := hI
  obtain ⟨g, hg⟩ : ∃ g : Nat → Value, ∀ t, f.tmps[t]?.getD undef = g t := ⟨_, fun _ => rfl⟩
  rw [hg] at e0 e3 e4 e5 e6 e7 e8 e9 ebd eix
  rw [lit195 f g hg hsz hds, e0, e3, e4, e5, e6, e7, e8, e9, ebd, eix]
  clear hg hsz hds e0 e3 e4 e5 e6 e7 e8 e9 ebd eix hF hR
  have hok := hPk.st.ok
  have hn2 := hok.n80
  have hw2 := hok.w2
  have hfit := hok.fits
  by_cases hlt : k < c.words
  · have hia : a * c.words + k < c.n * c.words := by
      have := Nat.mul_le_mul_right c.words (show a + 1 ≤ c.n by omega)
      rw [Nat.succ_mul] at this
      omega
    have hib : b * c.words + k < c.n * c.words := by
      have := Nat.mul_le_mul_right c.words (show b + 1 ≤ c.n by omega)
      rw [Nat.succ_mul] at this
      omega
    have hca := hPk.st.b.cell hia
    have hcb := hPk.st.b.cell hib
    have HX : Hid (_) := u64_andNot_nat (s.Mb (b * c.words + k)) (s.Mb (a * c.words + k)) (hPk.st.mb _) (hPk.st.mb _)
    have hxlt : s.Mb (b * c.words + k) &&& (18446744073709551615 - s.Mb (a * c.words + k)) < 18446744073709551616 := by
      have := @Nat.and_le_left (s.Mb (b * c.words + k)) (18446744073709551615 - s.Mb (a * c.words + k))
      have := hPk.st.mb (b * c.words + k)
      omega
    have HB : Hid (Bits2 c T hd s1 w1 s.Mb a b k (s.Mb (b * c.words + k) &&& (18446744073709551615 - s.Mb (a * c.words + k))) w) := by
      refine ⟨hxlt, s, hPk, fun _ _ _ h => h, fun t ht hbt => ?_, fun t ht htn hr => ?_⟩
      · rw [andNot_test _ _ _ (hPk.st.mb _) ht, Bool.and_eq_true] at hbt
        have hlt' := hPk.inv.wb b k t hb hlt ht hbt.1
        refine ⟨hlt', ?_⟩
        rw [← R_word s.Mb b k t ht] at hbt
        exact hbt.1
      · rw [andNot_test _ _ _ (hPk.st.mb _) ht]
        have hr' := hPk.ext.mono _ _ htn hr
        rw [← R_word s.Mb b k t ht, ← R_word s.Mb a k t ht]
        rw [show R c s.Mb b (k * 64 + t) = true from hr']
        cases R c s.Mb a (k * 64 + t) <;> simp
    have hk0 : (0 : Int) ≤ (k : Int) := by omega
    have hk1 : (k : Int) < (c.words : Int) := by omega
    unfold rowV
    have HPR : Hid (_) := hpr
    have HPk : Hid (_) := hPk
    clear hPk hpr
    go_wp2_with fail
    go_quiet (fail)
    go_wp2_with fail
    refine word2 (Q := _) c T htrans hd s1 w1 s.Mb v5 (rowV c c.Bf a) (rowV c c.Bf b) a b k (s.Mb (b * c.words + k) &&& (18446744073709551615 - s.Mb (a * c.words + k))) ha hb hlt hRab _ _ ?_ ?_ ?_
    · refine ⟨⟨rfl, rfl, rfl, rfl, rfl, rfl, rfl, rfl, rfl, rfl, rfl, rfl, rfl⟩, congrArg (Value.int .u64) HX.out, ?_⟩
      obtain ⟨h1, s', h2, h3⟩ := HB.out
      exact ⟨h1, s', h2.drewN _, h3⟩
    · intro f' w' hF' hB'
      obtain ⟨hsz, hds, e0, e3, e4, e5, e6, e7, e8, e9, ek, ebd, eix⟩ := hF'
      obtain ⟨_, s', hPk', hmn, _, hdn⟩ := hB'
      have HR' : Hid (Row2 c T hd s1 w1 a b (k + 1) w') := by
        refine ⟨s', hPk', fun x hx hxk hr => ?_⟩
        by_cases hxo : x < k * 64
        · exact hmn _ _ hx (HPR.out x hx hxo hr)
        · have e : k * 64 + (x - k * 64) = x := by omega
          have := hdn (x - k * 64) (by omega) (by omega) (by rw [e]; exact hr)
          rw [e] at this
          rcases this with h | h
          · simp at h
          · exact h
      obtain ⟨g', hg'⟩ : ∃ g : Nat → Value, ∀ t, f'.tmps[t]?.getD undef = g t := ⟨_, fun _ => rfl⟩
      rw [hg'] at e0 e3 e4 e5 e6 e7 e8 e9 ek ebd eix
      rw [lit195 f' g' hg' hsz hds, e0, e3, e4, e5, e6, e7, e8, e9, ebd, eix]
      clear hg' hsz hds e0 e3 e4 e5 e6 e7 e8 e9 ebd eix ek hPk' hdn hmn hca hcb HX HB HPk
      go_wp2_with fail
      refine ⟨_, ?_, k + 1, by omega, rfl, ⟨rfl, rfl, rfl, rfl, rfl, rfl, rfl, rfl, rfl, rfl, rfl, by first | rfl | go_num⟩, HR'.out⟩
      omega
    · intro f' w' h1 h2 h3 h4
      exact hret f' w' h1 h2 h3 h4
  · obtain rfl : k = c.words := by omega
    have HPk : Hid (_) := hPk
    have HPR : Hid (∀ x, x < c.n → R c s1.Mb b x = true → R c s.Mb a x = true) := fun x hx h => hpr x hx (by omega) h
    clear hPk hpr
    go_wp2_with fail
    exact hnext _ _ s rfl rfl rfl rfl rfl rfl rfl rfl HPk.out HPR.out

end Go.Proofs.YbulkbnbgDoor.Pr
