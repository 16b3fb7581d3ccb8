/-
  The drawn arcs, opened.
-/
import Derived.Test.YbulkbnbgDoorRowA
import Derived.Deep.SlicePairs
namespace Go.Proofs.YbulkbnbgDoor.Pr
open Go.ChangeShapes Go.WideShapes Go.ChangeAt Go.RowKit

theorem cells53 : Ybad.prog.cellsOf 53 = 2 := by kernel_rfl

theorem src2_of {H : Type} {enc : TypeId × Value → H} {W : World} {sp : Nat → Bool} {fuel : Nat} {a : Option Addr} {len cap : Nat} {d : DataW H × List MemPlace}
    (h : DataW.trod enc Ybad.prog W 0 sp true fuel 22 [.slice a len cap] = some d) : ∃ x y, Src2 (fun k => W.heap.size ≤ k) W a len x y := by
  rcases Go.Deep.open_slice_pairs Ybad.underlying22 Ybad.underlying53 cells53 rfl rfl cells5 cells5 h with ⟨hcs, _⟩ | ⟨ad, len', cap', m, n, V0, V1, D0, D1, P0, P1, hcs, _, hl, _, hm, _, hx⟩
  · simp at hcs
    obtain ⟨rfl, rfl, rfl⟩ := hcs
    exact ⟨fun _ => 0, fun _ => 0, fun i hi => absurd hi (by omega)⟩
  · simp at hcs
    obtain ⟨rfl, rfl, rfl⟩ := hcs
    have hlm : len ≤ m := by rw [hm]; split <;> omega
    refine ⟨fun i => (intOf (V0 i)).toNat, fun i => (intOf (V1 i)).toNat, fun i hi => ?_⟩
    obtain ⟨h0, h1, t0, t1⟩ := hx i (by omega)
    obtain ⟨n0, e0, _, w0⟩ := DataW.trod_int Ybad.underlying5 t0
    obtain ⟨n1, e1, _, w1⟩ := DataW.trod_int Ybad.underlying5 t1
    have e0 : V0 i = .int .u8 n0 := by simpa using e0
    have e1 : V1 i = .int .u8 n1 := by simpa using e1
    have b0 := bounds_u8 w0
    have b1 := bounds_u8 w1
    obtain ⟨b, off, sub⟩ := ad
    have hz := (hx 0 (by omega)).1
    have hspot : sub = none := by simpa [Addr.add] using World.cell?_spot hz
    subst hspot
    rw [add_plain] at h0 h1
    have hlt : b < W.heap.size := World.block_lt_of_cell? W _ h0
    have x0 : ((intOf (V0 i)).toNat : Int) = n0 := by rw [e0]; show ((n0.toNat : Nat) : Int) = n0; omega
    have x1 : ((intOf (V1 i)).toNat : Int) = n1 := by rw [e1]; show ((n1.toNat : Nat) : Int) = n1; omega
    refine ⟨b, off, rfl, hlt, by omega, ?_, ?_, by show (intOf (V0 i)).toNat ≤ 255; omega, by show (intOf (V1 i)).toNat ≤ 255; omega⟩
    · show W.cell? _ = some (.int .u8 ((intOf (V0 i)).toNat : Int))
      rw [x0, ← e0]; exact h0
    · show W.cell? _ = some (.int .u8 ((intOf (V1 i)).toNat : Int))
      rw [x1, ← e1, Nat.add_assoc]; exact h1
end Go.Proofs.YbulkbnbgDoor.Pr
