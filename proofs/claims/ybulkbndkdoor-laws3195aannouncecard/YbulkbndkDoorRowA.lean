/-
  The law's arguments and the listed map, opened.
-/
import Derived.Test.YbulkbndkDoorLaw
import Derived.ProofKit
import Derived.LaidMore
import Derived.OpenShut
import Derived.Stop.Joined
import Derived.Deep.Slices
namespace Go.Proofs.YbulkbndkDoor.Pr
set_option linter.unusedVariables false
open Go.ChangeShapes Go.WideShapes Go.ChangeAt Go.WideMaps Go.WideElems Go.RowKit

def laidL {H : Type} : List (String × DataW H) := [("example.com/signalweft/signalweft.asStateStatus", Rows.laid_example_com_signalweft_signalweft_asStateStatus)]

theorem gTab : Ybad.prog.globalNamed "example.com/signalweft/signalweft.asStateStatus" = some 0 := by kernel_rfl
theorem tTab : (Ybad.prog.globals[0]?).map (·.type) = some 170 := by kernel_rfl
theorem keyLaw : KeyLaw Ybad.prog 69 := string_law Ybad.underlying69
theorem cells5 : Ybad.prog.cellsOf 5 = 1 := by kernel_rfl
theorem cells24 : Ybad.prog.cellsOf 24 = 1 := by kernel_rfl
theorem cells23 : Ybad.prog.cellsOf 23 = 1 := by kernel_rfl
theorem cells25 : Ybad.prog.cellsOf 25 = 4 := by kernel_rfl
theorem cells27 : Ybad.prog.cellsOf 27 = 7 := by kernel_rfl

def asB (b : Nat) : ByteArray := if b % 4 = 0 then ⟨#[65, 83, 45, 68, 79, 87, 78]⟩ else if b % 4 = 1 then ⟨#[65, 83, 45, 73, 78, 65, 67, 84, 73, 86, 69]⟩ else if b % 4 = 2 then ⟨#[65, 83, 45, 65, 67, 84, 73, 86, 69]⟩ else ⟨#[65, 83, 45, 80, 69, 78, 68, 73, 78, 71]⟩
theorem asS_eq (b : Nat) : asS b = .string (asB b) := by unfold asS asB; split <;> (try split) <;> (try split) <;> rfl
theorem asB_size (b : Nat) : (asB b).size ≤ maxLen := by unfold asB; split <;> (try split) <;> (try split) <;> decide
theorem at_asB (b : Nat) : (Rows.laid_example_com_signalweft_signalweft_asStateStatus : DataW Unit).atKey (.string (asB b).data.toList) (.lit (.int .u32 0)) = .lit (.int .u32 (asN b : Int)) := by
  unfold asB asN
  rcases (by omega : b % 4 = 0 ∨ b % 4 = 1 ∨ b % 4 = 2 ∨ b % 4 = 3) with h | h | h | h <;> rw [h] <;> kernel_rfl

set_option maxRecDepth 100000 in
/-- WHAT THE CONDITION GIVES. -/
theorem glob_of_laid {W : World} (h : laidMetH Ybad.prog laidL W) : ∃ gm es cl, Glob W gm es cl := by
  rw [MakeChecks.laidMetH_plain _ _ _ (by kernel_rfl)] at h
  obtain ⟨ps, ⟨g0, t0, cs0, f0, p0, q0, hg0, ht0, hv0, hd0, _, _⟩, _⟩ := h
  obtain rfl := Option.some.inj (gTab.symm.trans hg0)
  obtain rfl := Option.some.inj (tTab.symm.trans ht0)
  rcases open_map Ybad.underlying170 hd0 with ⟨_, hx⟩ | ⟨bm, es, clock, m, rfl, hcs, hb, _, F, hx⟩
  · simp [Rows.laid_example_com_signalweft_signalweft_asStateStatus] at hx
  simp only [Prod.mk.injEq] at hx
  have hcell : W.cell? ⟨0, 0, none⟩ = some (.map (some bm)) := by
    have := World.var?_cell hg0 hv0 0
    rw [Array.eq_one_of_toList hcs] at this
    simpa using this
  refine ⟨bm, es, clock, hcell, hb, fun st w' hw' => ?_⟩
  have zero : (zeroValue 142).run Ybad.prog w' = .ok (.int .u32 0) w' := by kernel_rfl
  rw [asS_eq]
  have hat0 := at_asB st
  rcases fit_lookup (w := w') keyLaw Ybad.underlying170 zero hw' F (keyOf_string_mk (s := asB st) Ybad.underlying69 (asB_size st)) with ⟨hrun, hat⟩ | ⟨v, y, hrun, hRv, hat, _⟩
  · have := hat (.lit (.int .u32 0))
    rw [← hx.1, hat0] at this
    have e : (asN st : Int) = 0 := by simpa using this
    rw [e]
    exact hrun
  · obtain ⟨r, rfl, rfl, _⟩ := elemAt_int Ybad.underlying142 hRv
    have := hat (.lit (.int .u32 0))
    rw [← hx.1, hat0] at this
    have e : (asN st : Int) = r := by simpa using this
    rw [e]
    exact hrun

theorem src1_of {H : Type} {enc : TypeId × Value → H} {W : World} {sp : Nat → Bool} {fuel : Nat} {a : Option Addr} {len cap : Nat} {d : DataW H × List MemPlace}
    (h : DataW.trod enc Ybad.prog W 0 sp true fuel 23 [.slice a len cap] = some d) : ∃ xs : List Nat, xs.length = len ∧ (∀ x ∈ xs, x < 256) ∧ Src1 W.heap.size W a xs := by
  rcases Go.Deep.open_slice1 Ybad.underlying23 cells5 h with ⟨hcs, _⟩ | ⟨ad, len', cap', m, n, V, D, Pl, hcs, _, hl, _, hm, _, hx⟩
  · simp at hcs
    obtain ⟨rfl, rfl, rfl⟩ := hcs
    exact ⟨[], rfl, fun x hx => (by cases hx), fun i x hx => (by simp at hx)⟩
  · simp at hcs
    obtain ⟨rfl, rfl, rfl⟩ := hcs
    have hlm : len ≤ m := by rw [hm]; split <;> omega
    have each : ∀ i, i < len → ∃ k : Nat, V i = .int .u8 (k : Int) ∧ k < 256 := fun i hi => by
      obtain ⟨_, t0⟩ := hx i (by omega)
      obtain ⟨n0, e0, _, w0⟩ := DataW.trod_int Ybad.underlying5 t0
      have b0 := bounds_u8 w0
      have e0 : V i = .int .u8 n0 := by simpa using e0
      exact ⟨n0.toNat, by rw [e0]; congr 1; omega, by omega⟩
    obtain ⟨q, hq⟩ := Go.Deep.choose_lt each
    refine ⟨(List.range len).map q, by simp, fun x hx => ?_, fun i x hix => ?_⟩
    · obtain ⟨i, hi, rfl⟩ := List.mem_map.1 hx
      exact (hq i (by simpa using hi)).2
    · rw [List.getElem?_map] at hix
      have hi : i < len := by
        rcases Nat.lt_or_ge i len with h | h
        · exact h
        · rw [List.getElem?_eq_none (by simpa using h)] at hix; cases hix
      rw [List.getElem?_range hi] at hix
      obtain rfl : q i = x := by simpa using hix
      obtain ⟨b, off, sub⟩ := ad
      have hz := (hx 0 (by omega)).1
      have hspot : sub = none := by simpa [Addr.add] using World.cell?_spot hz
      subst hspot
      have h0 := (hx i (by omega)).1
      rw [add_plain, (hq i hi).1] at h0
      exact ⟨b, off, rfl, World.block_lt_of_cell? W _ h0, h0⟩
end Go.Proofs.YbulkbndkDoor.Pr
