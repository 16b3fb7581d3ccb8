/-
  'zzs3191bcheck' (function 8): the search held against the table.
-/
import Derived.Test.YbulkbnbgDoorChkB
namespace Go.Proofs.YbulkbnbgDoor.Pr
set_option linter.unusedSimpArgs false
open Go.ChangeShapes Go.WideShapes Go.ChangeAt Go.RowKit

theorem and_one (m : Nat) : m &&& 1 = if m.testBit 0 then 1 else 0 := and_pow m 0
theorem shr_test (m k : Nat) (hm : m < 18446744073709551616) : (bits .and .u64 ((m : Int) / 2 ^ k) 1 != 0) = m.testBit k := by
  have e : ((m : Int) / 2 ^ k) = ((m / 2 ^ k : Nat) : Int) := by push_cast; rfl
  have hlt : m / 2 ^ k < 18446744073709551616 := Nat.lt_of_le_of_lt (Nat.div_le_self _ _) hm
  have h1 : bits .and .u64 ((m / 2 ^ k : Nat) : Int) ((1 : Nat) : Int) = (((m / 2 ^ k) &&& 1 : Nat) : Int) := u64_and_nat _ 1 hlt (by omega)
  rw [e, show (1 : Int) = ((1 : Nat) : Int) from rfl, h1, and_one, ← Nat.shiftRight_eq_div_pow, Nat.testBit_shiftRight, Nat.add_zero]
  cases m.testBit k <;> rfl
theorem cntRow_le (r : Nat → Nat → Bool) (a : Nat) : ∀ b, cntRow r a b ≤ b
  | 0 => by simp [cntRow]
  | b + 1 => by
    have := cntRow_le r a b
    unfold cntRow
    split <;> omega

/-- The frame of the last two loops. -/
def Fw2 (c : Cfg) (rB : Nat) (ct a : Nat) (f : Act) : Prop :=
  f.tmps.size = 218 ∧ f.defers = [] ∧ f.tmps[0]?.getD undef = .pointer (some ⟨c.P, 0, none⟩) ∧ f.tmps[1]?.getD undef = .int .i64 (c.n : Int) ∧ f.tmps[9]?.getD undef = .slice (some ⟨rB, 0, none⟩) (c.n * c.n) (c.n * c.n) ∧
  f.tmps[16]?.getD undef = .int .i64 (c.words : Int) ∧ f.tmps[17]?.getD undef = .int .i64 (ct : Int) ∧ f.tmps[18]?.getD undef = .int .i64 (a : Int)

def Z12 (c : Cfg) (rB : Nat) (r : Nat → Nat → Bool) (w1 : World) (ct a : Nat) (m : Nat) (f : Act) (w : World) : Prop :=
  ∃ b, b ≤ c.n ∧ m = c.n - b ∧ Fw2 c rB (ct + cntRow r a b) a f ∧ f.tmps[19]?.getD undef = .int .i64 (b : Int) ∧ w = w1

set_option maxRecDepth 100000 in
set_option maxHeartbeats 4000000 in
theorem check12 {Q : Exit → Act → World → Prop} (c : Cfg) (s : PS) (rB : Nat) (r : Nat → Nat → Bool) (w1 : World) (hS : St c s w1) (hB : Bm c.n rB r w1) (hq : ∀ x y, x < c.n → y < c.n → R c s.Mb x y = r x y ∧ R c s.Ma y x = r x y) (ct a : Nat) (hct : ct ≤ 6400) (ha : a < c.n) (f : Act)
    (hF : Z12 c rB r w1 ct a c.n f w1)
    (hnext : ∀ f', Fw2 c rB (ct + cntRow r a c.n) a f' → Q (.exit 12) f' w1) :
    Code.wp Ybad.prog ((Ybad.f8.body.bind (blk 12)).getD .skip) Q f w1 := by
  conv => arg 2; whnf
  refine wp_loop_ghost (Z12 c rB r w1 ct a) c.n hF ?_
  clear hF f
  rintro m f w ⟨b, hb, rfl, ⟨hsz, hds, e0, e1, e9, e16, e17, e18⟩, e19, rfl⟩
  obtain ⟨g, hg⟩ : ∃ g : Nat → Value, ∀ t, f.tmps[t]?.getD undef = g t := ⟨_, fun _ => rfl⟩
  rw [hg] at e0 e1 e9 e16 e17 e18 e19
  rw [lit218 f g hg hsz hds, e0, e1, e9, e16, e17, e18, e19]
  clear hg hsz hds e0 e1 e9 e16 e17 e18 e19
  have hn2 := hS.ok.n80
  have hw2 := hS.ok.w2
  by_cases hl : b < c.n
  · obtain ⟨k0, k1, k2, k3⟩ := idx_int ha hl hn2
    have hI1 : (b : Int) < (c.n : Int) := by omega
    have hc1 := hB.cell ha hl
    have hc3 := pc3 hS.p
    have hc4 := pc4 hS.p
    have hc5 := pc5 hS.p
    have hnw := nw_le hS.ok
    obtain ⟨y1, y2, y3⟩ := at_bd hS.ok ha hl
    obtain ⟨z1, z2, z3⟩ := at_bd hS.ok hl ha
    have hi1 := at_lt hS.ok ha hl
    have hi2 := at_lt hS.ok hl ha
    have hx1 := hS.b.cell hi1
    have hx2 := hS.a.cell hi2
    have hx3 := hS.l.cell (lit_lt ha hl)
    have hm1 := hS.mb (at_ c a b)
    have hm2 := hS.ma (at_ c b a)
    obtain ⟨q1, q2⟩ := hq a b ha hl
    unfold R at q1 q2
    generalize s.Mb (at_ c a b) = M1 at *
    generalize s.Ma (at_ c b a) = M2 at *
    unfold at_ at hx1 hx2 hi1 hi2
    have t1 := shr_test M1 (b % 64) hm1
    have t2 := shr_test M2 (a % 64) hm2
    rw [q1] at t1
    rw [q2] at t2
    have hcl := cntRow_le r a b
    have h0 : cntRow r a (b + 1) = cntRow r a b + if r a b then 1 else 0 := rfl
    have HC : Hid (_) := h0
    clear q1 q2 hS hB hq h0
    cases hab : r a b with
    | true =>
      rw [hab] at t1 t2 hc1
      go_wp2_with fail
      refine ⟨c.n - (b + 1), by omega, b + 1, by omega, rfl, ⟨rfl, rfl, rfl, rfl, rfl, rfl, ?_, rfl⟩, by first | rfl | go_num, rfl⟩
      rw [HC.out, hab]
      go_num
    | false =>
      rw [hab] at t1 t2 hc1
      go_wp2_with fail
      refine ⟨c.n - (b + 1), by omega, b + 1, by omega, rfl, ⟨rfl, rfl, rfl, rfl, rfl, rfl, ?_, rfl⟩, by first | rfl | go_num, rfl⟩
      rw [HC.out, hab]
      go_num
  · obtain rfl : b = c.n := by omega
    have hI1 : ¬ (c.n : Int) < (c.n : Int) := by omega
    clear hS hB hq
    go_wp2_with fail
    first | exact hnext _ ⟨rfl, rfl, rfl, rfl, rfl, rfl, rfl, rfl⟩ | exact ⟨rfl, rfl, rfl, rfl, rfl, rfl, rfl, rfl⟩
end Go.Proofs.YbulkbnbgDoor.Pr
