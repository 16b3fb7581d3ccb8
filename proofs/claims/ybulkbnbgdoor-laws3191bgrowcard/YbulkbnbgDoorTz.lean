/-
  math/bits.TrailingZeros64 at this dump (after the shelf's own walk), the lowest bit struck off, and 'visit' (function 25) where nothing is watched.
-/
import Derived.Test.YbulkbnbgDoorBase
import Derived.Lib.TrailingZeros
namespace Go.Proofs.YbulkbnbgDoor.Pr
open Go.ChangeShapes Go.WideShapes Go.ChangeAt Go.RowKit

/-- The library's table in its variable. -/
def Tab (w : World) : Prop := ∀ j, j < 64 → w.cell? ⟨0, j, none⟩ = some (.int .u8 (Lib.deBruijn64tab.getD j 0 : Nat))

theorem tz_key (x a : Nat) (hx : x < 18446744073709551616) (hx0 : x ≠ 0) (hlow : x &&& (18446744073709551616 - x) = a) :
    IntKind.u64.wrap (bits BinOp.and IntKind.u64 (x : Int) (IntKind.u64.wrap (-(x : Int))) * 285870213051353865) / 288230376151711744 = ((a * 285870213051353865 % 18446744073709551616 / 288230376151711744 : Nat) : Int) := by
  have e1 : IntKind.u64.wrap (-(x : Int)) = ((18446744073709551616 - x : Nat) : Int) := by rw [IntKind.wrap_u64]; omega
  rw [e1, u64_and_nat x _ hx (by omega), hlow, IntKind.wrap_u64]
  omega

set_option maxHeartbeats 1000000 in
theorem tz_core (x k idx : Nat) (w : World) (hx0 : ((x : Int) == 0) = false)
    (key : IntKind.u64.wrap (bits BinOp.and IntKind.u64 (x : Int) (IntKind.u64.wrap (-(x : Int))) * 285870213051353865) / 288230376151711744 = (idx : Int))
    (hi : idx < 64) (hk : k < 64) (hcell : w.cell? ⟨0, idx, none⟩ = some (.int .u8 k)) :
    Calls Ybad.prog 24 #[.int .u64 x] w fun e w' => e = .returned (.int .i64 k) ∧ w' = w := by
  go_enter Ybad.func24, Ybad.ntmps24
  go_wp2_with (simp only [key])
  go_ret
  exact ⟨rfl, rfl⟩

theorem tz_any (x : Nat) (hx : x < 18446744073709551616) (hx0 : x ≠ 0) (w : World) (hT : Tab w) :
    Calls Ybad.prog 24 #[.int .u64 x] w fun e w' => e = .returned (.int .i64 (Lib.ctz 64 x : Nat)) ∧ w' = w := by
  obtain ⟨hlow, hk⟩ := Lib.lowest_bit 64 x hx0 hx
  obtain ⟨hi, htab⟩ := Lib.deBruijn64_at _ hk
  have hcell := hT _ hi
  rw [htab] at hcell
  exact tz_core x _ _ w (by simp; omega) (tz_key x _ hx hx0 hlow) hi hk hcell

/-! ### The lowest bit -/
theorem ctz_spec (x : Nat) (hx : x < 18446744073709551616) (hx0 : x ≠ 0) : ∃ m, x = 2 ^ Lib.ctz 64 x * (2 * m + 1) ∧ Lib.ctz 64 x < 64 := by
  have e : (2 : Nat) ^ 64 = 18446744073709551616 := by decide
  have := Lib.ctzFrom_spec 64 x (by omega) (by rw [e]; exact hx)
  unfold Lib.ctz
  rw [if_neg hx0]
  exact this

theorem and_pred (k m : Nat) : (2 ^ k * (2 * m + 1)) &&& (2 ^ k * (2 * m + 1) - 1) = 2 ^ k * (2 * m) := by
  have hp : 0 < 2 ^ k := Nat.two_pow_pos k
  have e2 : 2 ^ k * (2 * m + 1) - 1 = 2 ^ k * (2 * m) + (2 ^ k - 1) := by
    rw [Nat.mul_add, Nat.mul_one]; omega
  rw [e2]
  apply Nat.eq_of_testBit_eq
  intro i
  rw [Nat.testBit_and, Nat.testBit_two_pow_mul_add _ (by omega), Nat.mul_comm (2 ^ k), Nat.mul_comm (2 ^ k), Nat.testBit_mul_two_pow, Nat.testBit_mul_two_pow]
  by_cases hik : i < k
  · have : ¬ k ≤ i := by omega
    simp [hik, this]
  · rw [if_neg hik]
    have hki : k ≤ i := by omega
    simp only [hki, decide_true, Bool.true_and]
    obtain ⟨d, rfl⟩ : ∃ d, i = k + d := ⟨i - k, by omega⟩
    rw [Nat.add_sub_cancel_left]
    cases d with
    | zero => simp
    | succ d =>
      rw [Nat.testBit_succ, Nat.testBit_succ]
      have d1 : (2 * m + 1) / 2 = m := by omega
      have d2 : 2 * m / 2 = m := by omega
      rw [d1, d2]
      simp

/-- 'x & (x - 1)' strikes off the bit that TrailingZeros names, and no other. -/
theorem strike (x : Nat) (hx : x < 18446744073709551616) (hx0 : x ≠ 0) (t : Nat) : (x &&& (x - 1)).testBit t = (x.testBit t && decide (t ≠ Lib.ctz 64 x)) ∧ x.testBit (Lib.ctz 64 x) = true ∧ Lib.ctz 64 x < 64 := by
  obtain ⟨m, hm, hlt⟩ := ctz_spec x hx hx0
  generalize Lib.ctz 64 x = k at *
  subst hm
  rw [and_pred]
  have tb : ∀ i, (2 ^ k * (2 * m + 1)).testBit i = (decide (k ≤ i) && (2 * m + 1).testBit (i - k)) := fun i => by
    rw [Nat.mul_comm, Nat.testBit_mul_two_pow]
  refine ⟨?_, by rw [tb]; simp, hlt⟩
  rw [tb, Nat.mul_comm, Nat.testBit_mul_two_pow]
  by_cases hk : k ≤ t
  · obtain ⟨d, rfl⟩ : ∃ d, t = k + d := ⟨t - k, by omega⟩
    rw [Nat.add_sub_cancel_left]
    cases d with
    | zero => simp
    | succ d =>
      rw [Nat.testBit_succ, Nat.testBit_succ]
      have d1 : (2 * m + 1) / 2 = m := by omega
      have d2 : 2 * m / 2 = m := by omega
      rw [d1, d2]
      simp
  · simp [hk]

theorem strike_lt (x : Nat) (hx0 : x ≠ 0) : x &&& (x - 1) < x := by
  have := @Nat.and_le_right x (x - 1)
  omega

theorem strike_bits (x : Nat) (hx : x < 18446744073709551616) (hx0 : x ≠ 0) : bits .and .u64 (x : Int) (IntKind.u64.wrap ((x : Int) - 1)) = ((x &&& (x - 1) : Nat) : Int) := by
  have e : IntKind.u64.wrap ((x : Int) - 1) = ((x - 1 : Nat) : Int) := by rw [IntKind.wrap_u64]; omega
  rw [e, u64_and_nat x (x - 1) hx (by omega)]

/-! ### visit -/
theorem St.setW {c : Cfg} {s : PS} {w : World} (h : St c s w) (j : Nat) : St c s (w.setCell ⟨c.Ws, j, none⟩ (.slice none 0 0)) := by
  have hne := h.ok.ne
  simp at hne
  refine ⟨h.ok, h.p.setOther (by simp; omega) _, h.b.setOther (by simp; omega) _, h.a.setOther (by simp; omega) _, h.l.setOther (by simp; omega) _, h.t.setOther (by simp; omega) _, h.r.setOther (by simp; omega) _, ?_, h.mb, h.ma, ?_, h.cf, h.ne⟩
  · exact (h.ws.set _ _).congr fun i _ => by simp
  · exact ownsRow_of_block h.tr fun g hg => Below.heap_setCell _ _ _ _ (h.ne g hg).2.2.2.2.2.2

set_option maxRecDepth 100000 in
set_option maxHeartbeats 1000000 in
theorem visit_any (c : Cfg) (s : PS) (w : World) (hS : St c s w) (L : Int) (a b : Nat) (hL : L = (a : Int) * (c.n : Int) + (b : Int)) (ha : a < c.n) (hb : b < c.n) :
    Calls Ybad.prog 25 #[.pointer (some ⟨c.P, 0, none⟩), .int .i32 L] w fun e w' => e = .returned (.bool false) ∧ St c s w' ∧ Keeps (own c s.tv.ownBlock) w w' := by
  have hbd := lit_bd hL ha hb hS.ok.n80
  have hLn : L.toNat < c.n * c.n := by
    have := lit_nat hL
    have := lit_lt ha hb
    omega
  have hLi : L < ((c.n * c.n : Nat) : Int) := by omega
  have hLi' : L < (c.n : Int) * (c.n : Int) := by push_cast at hLi; exact hLi
  have hL0 : 0 ≤ L := hbd.1
  have hnn := nn_le hS.ok.n80
  have h14 := pc14 hS.p
  have hcw := hS.ws.cell hLn
  have hfw := hS.ws.frozen L.toNat
  have HT : Hid (_) := hS.setW L.toNat
  have HK : Hid (Keeps (own c s.tv.ownBlock) w (w.setCell ⟨c.Ws, L.toNat, none⟩ (.slice none 0 0))) := (Keeps.refl _ _).setCell (fun _ => by simp [own]) _
  clear hL hS
  go_enter Ybad.func25, Ybad.ntmps25
  go_wp2_with fail
  refine wp_loop_rounds 1 ?_
  rw [rounds_succ]
  go_wp2_with fail
  go_region
  all_goals
    go_wp2_with fail
    go_ret
    exact ⟨rfl, St.drew HT.out, Keeps.drew HK.out⟩
end Go.Proofs.YbulkbnbgDoor.Pr
