import Derived.Test.YbulkbncwRows
import Derived.WalkKit
import Derived.ProofKit
import Derived.OpenShut
import Derived.ShutString
import Derived.Handy
import Derived.Below
namespace Go.Proofs.Ybulkbncw.mic
open Go.ChangeShapes Go.WideShapes Go.ChangeAt Go.RowKit

def inRange (n : Int) : Prop := 28 ≤ n ∧ n ≤ 127

/-- The four ways of the three bytes a, b, c: the numbers x, y, z and the answer ok. -/
def Ways (a b c : Int) (x y z : Int) (ok : Bool) : Prop :=
  (¬ inRange a ∧ x = 0 ∧ y = 0 ∧ z = 0 ∧ ok = false) ∨
  (inRange a ∧ ¬ inRange b ∧ x = a - 28 ∧ y = 0 ∧ z = 0 ∧ ok = false) ∨
  (inRange a ∧ inRange b ∧ ¬ inRange c ∧ x = a - 28 ∧ y = b - 28 ∧ z = 0 ∧ ok = false) ∨
  (inRange a ∧ inRange b ∧ inRange c ∧ x = a - 28 ∧ y = b - 28 ∧ z = c - 28 ∧ ok = true)

set_option maxHeartbeats 400000 in
theorem mic_lo0 (s : ByteArray) (w : World) (hs : s.size ≤ maxLen) (h3 : 3 ≤ s.size) (h0 : (s[0].toNat : Int) < 28) :
    Calls Yba.prog 6 #[.string s] w fun e w' => e = .returned (.tuple #[.agg #[.int .i64 (0), .int .i64 (0), .int .i64 (0)], .bool false]) ∧ Below w.heap.size w w' := by
  unfold maxLen at hs
  go_enter Yba.func6, Yba.ntmps6
  go_wp2
  go_rounds 4
  go_returns
  exact ⟨rfl, by go_grown⟩

set_option maxHeartbeats 400000 in
theorem mic_hi0 (s : ByteArray) (w : World) (hs : s.size ≤ maxLen) (h3 : 3 ≤ s.size) (h0' : 127 < (s[0].toNat : Int)) :
    Calls Yba.prog 6 #[.string s] w fun e w' => e = .returned (.tuple #[.agg #[.int .i64 (0), .int .i64 (0), .int .i64 (0)], .bool false]) ∧ Below w.heap.size w w' := by
  unfold maxLen at hs
  go_enter Yba.func6, Yba.ntmps6
  go_wp2
  go_rounds 4
  go_returns
  exact ⟨rfl, by go_grown⟩

set_option maxHeartbeats 400000 in
theorem mic_lo1 (s : ByteArray) (w : World) (hs : s.size ≤ maxLen) (h3 : 3 ≤ s.size) (h0 : 28 ≤ (s[0].toNat : Int)) (h0' : (s[0].toNat : Int) ≤ 127) (h1 : (s[1].toNat : Int) < 28) :
    Calls Yba.prog 6 #[.string s] w fun e w' => e = .returned (.tuple #[.agg #[.int .i64 ((s[0].toNat : Int) - 28), .int .i64 (0), .int .i64 (0)], .bool false]) ∧ Below w.heap.size w w' := by
  unfold maxLen at hs
  go_enter Yba.func6, Yba.ntmps6
  go_wp2
  go_rounds 4
  go_returns
  exact ⟨rfl, by go_grown⟩

set_option maxHeartbeats 400000 in
theorem mic_hi1 (s : ByteArray) (w : World) (hs : s.size ≤ maxLen) (h3 : 3 ≤ s.size) (h0 : 28 ≤ (s[0].toNat : Int)) (h0' : (s[0].toNat : Int) ≤ 127) (h1' : 127 < (s[1].toNat : Int)) :
    Calls Yba.prog 6 #[.string s] w fun e w' => e = .returned (.tuple #[.agg #[.int .i64 ((s[0].toNat : Int) - 28), .int .i64 (0), .int .i64 (0)], .bool false]) ∧ Below w.heap.size w w' := by
  unfold maxLen at hs
  go_enter Yba.func6, Yba.ntmps6
  go_wp2
  go_rounds 4
  go_returns
  exact ⟨rfl, by go_grown⟩

set_option maxHeartbeats 400000 in
theorem mic_lo2 (s : ByteArray) (w : World) (hs : s.size ≤ maxLen) (h3 : 3 ≤ s.size) (h0 : 28 ≤ (s[0].toNat : Int)) (h0' : (s[0].toNat : Int) ≤ 127) (h1 : 28 ≤ (s[1].toNat : Int)) (h1' : (s[1].toNat : Int) ≤ 127) (h2 : (s[2].toNat : Int) < 28) :
    Calls Yba.prog 6 #[.string s] w fun e w' => e = .returned (.tuple #[.agg #[.int .i64 ((s[0].toNat : Int) - 28), .int .i64 ((s[1].toNat : Int) - 28), .int .i64 (0)], .bool false]) ∧ Below w.heap.size w w' := by
  unfold maxLen at hs
  go_enter Yba.func6, Yba.ntmps6
  go_wp2
  go_rounds 4
  go_returns
  exact ⟨rfl, by go_grown⟩

set_option maxHeartbeats 400000 in
theorem mic_hi2 (s : ByteArray) (w : World) (hs : s.size ≤ maxLen) (h3 : 3 ≤ s.size) (h0 : 28 ≤ (s[0].toNat : Int)) (h0' : (s[0].toNat : Int) ≤ 127) (h1 : 28 ≤ (s[1].toNat : Int)) (h1' : (s[1].toNat : Int) ≤ 127) (h2' : 127 < (s[2].toNat : Int)) :
    Calls Yba.prog 6 #[.string s] w fun e w' => e = .returned (.tuple #[.agg #[.int .i64 ((s[0].toNat : Int) - 28), .int .i64 ((s[1].toNat : Int) - 28), .int .i64 (0)], .bool false]) ∧ Below w.heap.size w w' := by
  unfold maxLen at hs
  go_enter Yba.func6, Yba.ntmps6
  go_wp2
  go_rounds 4
  go_returns
  exact ⟨rfl, by go_grown⟩

set_option maxHeartbeats 400000 in
theorem mic_all (s : ByteArray) (w : World) (hs : s.size ≤ maxLen) (h3 : 3 ≤ s.size) (h0 : 28 ≤ (s[0].toNat : Int)) (h0' : (s[0].toNat : Int) ≤ 127) (h1 : 28 ≤ (s[1].toNat : Int)) (h1' : (s[1].toNat : Int) ≤ 127) (h2 : 28 ≤ (s[2].toNat : Int)) (h2' : (s[2].toNat : Int) ≤ 127) :
    Calls Yba.prog 6 #[.string s] w fun e w' => e = .returned (.tuple #[.agg #[.int .i64 ((s[0].toNat : Int) - 28), .int .i64 ((s[1].toNat : Int) - 28), .int .i64 ((s[2].toNat : Int) - 28)], .bool true]) ∧ Below w.heap.size w w' := by
  unfold maxLen at hs
  go_enter Yba.func6, Yba.ntmps6
  go_wp2
  go_rounds 4
  go_returns
  exact ⟨rfl, by go_grown⟩

theorem mic (s : ByteArray) (w : World) (hs : s.size ≤ maxLen) (h3 : 3 ≤ s.size) :
    Calls Yba.prog 6 #[.string s] w fun e w' => ∃ x y z ok, e = .returned (.tuple #[.agg #[.int .i64 x, .int .i64 y, .int .i64 z], .bool ok]) ∧ Ways (s[0].toNat : Int) (s[1].toNat : Int) (s[2].toNat : Int) x y z ok ∧ Below w.heap.size w w' := by
  by_cases a0 : (s[0].toNat : Int) < 28
  · exact (mic_lo0 s w hs h3 a0).mono fun e w' h => ⟨_, _, _, _, h.1, .inl ⟨fun r => by have := r.1; omega, rfl, rfl, rfl, rfl⟩, h.2⟩
  by_cases b0 : 127 < (s[0].toNat : Int)
  · exact (mic_hi0 s w hs h3 b0).mono fun e w' h => ⟨_, _, _, _, h.1, .inl ⟨fun r => by have := r.2; omega, rfl, rfl, rfl, rfl⟩, h.2⟩
  have a0' : 28 ≤ (s[0].toNat : Int) := by omega
  have b0' : (s[0].toNat : Int) ≤ 127 := by omega
  by_cases a1 : (s[1].toNat : Int) < 28
  · exact (mic_lo1 s w hs h3 a0' b0' a1).mono fun e w' h => ⟨_, _, _, _, h.1, .inr (.inl ⟨⟨a0', b0'⟩, fun r => by have := r.1; omega, rfl, rfl, rfl, rfl⟩), h.2⟩
  by_cases b1 : 127 < (s[1].toNat : Int)
  · exact (mic_hi1 s w hs h3 a0' b0' b1).mono fun e w' h => ⟨_, _, _, _, h.1, .inr (.inl ⟨⟨a0', b0'⟩, fun r => by have := r.2; omega, rfl, rfl, rfl, rfl⟩), h.2⟩
  have a1' : 28 ≤ (s[1].toNat : Int) := by omega
  have b1' : (s[1].toNat : Int) ≤ 127 := by omega
  by_cases a2 : (s[2].toNat : Int) < 28
  · exact (mic_lo2 s w hs h3 a0' b0' a1' b1' a2).mono fun e w' h => ⟨_, _, _, _, h.1, .inr (.inr (.inl ⟨⟨a0', b0'⟩, ⟨a1', b1'⟩, fun r => by have := r.1; omega, rfl, rfl, rfl, rfl⟩)), h.2⟩
  by_cases b2 : 127 < (s[2].toNat : Int)
  · exact (mic_hi2 s w hs h3 a0' b0' a1' b1' b2).mono fun e w' h => ⟨_, _, _, _, h.1, .inr (.inr (.inl ⟨⟨a0', b0'⟩, ⟨a1', b1'⟩, fun r => by have := r.2; omega, rfl, rfl, rfl, rfl⟩)), h.2⟩
  have a2' : 28 ≤ (s[2].toNat : Int) := by omega
  have b2' : (s[2].toNat : Int) ≤ 127 := by omega
  exact (mic_all s w hs h3 a0' b0' a1' b1' a2' b2').mono fun e w' h => ⟨_, _, _, _, h.1, .inr (.inr (.inr ⟨⟨a0', b0'⟩, ⟨a1', b1'⟩, ⟨a2', b2'⟩, rfl, rfl, rfl, rfl⟩)), h.2⟩

end Go.Proofs.Ybulkbncw.mic
