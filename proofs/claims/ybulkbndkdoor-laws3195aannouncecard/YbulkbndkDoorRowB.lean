/-
  The servers, opened.
-/
import Derived.Test.YbulkbndkDoorRowA
namespace Go.Proofs.YbulkbndkDoor.Pr
set_option linter.unusedVariables false
set_option linter.unusedSimpArgs false
open Go.ChangeShapes Go.WideShapes Go.ChangeAt Go.WideMaps Go.WideElems Go.RowKit

instance : Inhabited Sv := ⟨⟨0, 0, [], fun _ => 0⟩⟩
def SvAt (W : World) (b off i : Nat) (q : Sv × Option Addr × Nat) : Prop :=
  W.cell? ⟨b, off + i * 7, none⟩ = some (.int .u32 (q.1.rc : Int)) ∧ W.cell? ⟨b, off + i * 7 + 1, none⟩ = some (.int .u8 (q.1.st : Int)) ∧ W.cell? ⟨b, off + i * 7 + 2, none⟩ = some (.slice q.2.1 q.1.ms.length q.2.2) ∧
    (∀ j, j < 4 → W.cell? ⟨b, off + i * 7 + 3 + j, none⟩ = some (.int .u8 (q.1.ss j : Int))) ∧ Src1 W.heap.size W q.2.1 q.1.ms ∧ q.1.rc < 4294967296 ∧ q.1.st < 256 ∧ (∀ m ∈ q.1.ms, m < 256) ∧ ∀ j, q.1.ss j < 256

theorem u8_of {H : Type} {enc : TypeId × Value → H} {W : World} {sp : Nat → Bool} {fuel : Nat} {v : Value} {d : DataW H × List MemPlace} (h : DataW.trod enc Ybad.prog W 0 sp true fuel 5 [v] = some d) : ∃ k : Nat, v = .int .u8 (k : Int) ∧ k < 256 := by
  obtain ⟨n0, e0, _, w0⟩ := DataW.trod_int Ybad.underlying5 h
  have b0 := bounds_u8 w0
  have e0 : v = .int .u8 n0 := by simpa using e0
  exact ⟨n0.toNat, by rw [e0]; congr 1; omega, by omega⟩
theorem u32_of {H : Type} {enc : TypeId × Value → H} {W : World} {sp : Nat → Bool} {fuel : Nat} {v : Value} {d : DataW H × List MemPlace} (h : DataW.trod enc Ybad.prog W 0 sp true fuel 24 [v] = some d) : ∃ k : Nat, v = .int .u32 (k : Int) ∧ k < 4294967296 := by
  obtain ⟨n0, e0, _, w0⟩ := DataW.trod_int Ybad.underlying24 h
  have b0 := bounds_u32 w0
  have e0 : v = .int .u32 n0 := by simpa using e0
  exact ⟨n0.toNat, by rw [e0]; congr 1; omega, by omega⟩

set_option maxRecDepth 100000 in
theorem sv_of {H : Type} {enc : TypeId × Value → H} {W : World} {sp : Nat → Bool} {n : Nat} {b off i : Nat} {cs : List Value} {d : DataW H × List MemPlace} (hlen : cs.length = 7) (hcell : ∀ j, j < 7 → W.cell? ⟨b, off + i * 7 + j, none⟩ = cs[j]?)
    (h : DataW.trod enc Ybad.prog W 0 sp true n 27 cs = some d) : ∃ q, SvAt W b off i q := by
  obtain ⟨xs, k, hk, hxy, _, hxl, hf⟩ := DataW.trod_struct Ybad.underlying27 h
  match xs, hxl, cs, hlen with
  | [y0, y1, y2, y3], _, [v0, v1, v2, v3, v4, v5, v6], _ =>
    have g0 := hf 0 _ rfl
    have g1 := hf 1 _ rfl
    have g2 := hf 2 _ rfl
    have g3 := hf 3 _ rfl
    simp [cells24, cells5, cells23, cells25] at g0 g1 g2 g3
    obtain ⟨rc, rfl, hrc⟩ := u32_of g0
    obtain ⟨st, rfl, hst⟩ := u8_of g1
    obtain ⟨ma, ml, mc, rfl⟩ : ∃ ma ml mc, v2 = .slice ma ml mc := by
      rcases DataW.trod_slice Ybad.underlying23 g2 with ⟨hc, _⟩ | ⟨a, len, cap, _, _, _, _, hc, _⟩
      · exact ⟨none, 0, 0, by simpa using hc⟩
      · exact ⟨some a, len, cap, by simpa using hc⟩
    obtain ⟨ms, hml, hms, hsrc⟩ := src1_of g2
    obtain ⟨zs, m1, _, _, _, hzl, hel⟩ := DataW.trod_array Ybad.underlying25 g3
    match zs, hzl with
    | [z0, z1, z2, z3], _ =>
      have k0 := hel 0 (by omega)
      have k1 := hel 1 (by omega)
      have k2 := hel 2 (by omega)
      have k3 := hel 3 (by omega)
      simp [cells5] at k0 k1 k2 k3
      obtain ⟨s0, rfl, b0⟩ := u8_of k0
      obtain ⟨s1, rfl, b1⟩ := u8_of k1
      obtain ⟨s2, rfl, b2⟩ := u8_of k2
      obtain ⟨s3, rfl, b3⟩ := u8_of k3
      have c0 := hcell 0 (by omega)
      have c1 := hcell 1 (by omega)
      have c2 := hcell 2 (by omega)
      have c3 := hcell 3 (by omega)
      have c4 := hcell 4 (by omega)
      have c5 := hcell 5 (by omega)
      have c6 := hcell 6 (by omega)
      refine ⟨(⟨rc, st, ms, fun j => if j = 0 then s0 else if j = 1 then s1 else if j = 2 then s2 else if j = 3 then s3 else 0⟩, ma, mc), c0, c1, ?_, fun j hj => ?_, hsrc, hrc, hst, hms, fun j => ?_⟩
      · rw [hml]; exact c2
      · have : j = 0 ∨ j = 1 ∨ j = 2 ∨ j = 3 := by omega
        rcases this with rfl | rfl | rfl | rfl
        · exact c3
        · exact c4
        · exact c5
        · exact c6
      · show (if j = 0 then s0 else if j = 1 then s1 else if j = 2 then s2 else if j = 3 then s3 else 0) < 256
        split
        · exact b0
        · split
          · exact b1
          · split
            · exact b2
            · split
              · exact b3
              · omega

theorem inp_of {H : Type} {enc : TypeId × Value → H} {W : World} {sp : Nat → Bool} {fuel : Nat} {a : Option Addr} {len cap : Nat} {d : DataW H × List MemPlace}
    (h : DataW.trod enc Ybad.prog W 0 sp true fuel 22 [.slice a len cap] = some d) : ∃ SV ma mc, Inp W.heap.size len SV a ma mc W ∧ (∀ i, (SV i).rc < 4294967296 ∧ (SV i).st < 256 ∧ (∀ m ∈ (SV i).ms, m < 256) ∧ ∀ j, (SV i).ss j < 256) ∧ ∀ i, len ≤ i → (SV i).ms = [] := by
  rcases Go.Deep.open_slice Ybad.underlying22 h with ⟨hcs, _⟩ | ⟨ad, len', cap', m, n, D, Pl, hcs, _, hl, _, hm, _, hx⟩
  · simp at hcs
    obtain ⟨rfl, rfl, rfl⟩ := hcs
    exact ⟨fun _ => ⟨0, 0, [], fun _ => 0⟩, fun _ => none, fun _ => 0, ⟨fun i hi => absurd hi (by omega), fun i hi => absurd hi (by omega)⟩, fun i => ⟨(by show 0 < 4294967296; omega), (by show 0 < 256; omega), fun m hm => (by cases hm), fun j => (by show 0 < 256; omega)⟩, fun _ _ => rfl⟩
  · simp at hcs
    obtain ⟨rfl, rfl, rfl⟩ := hcs
    have hlm : len ≤ m := by rw [hm]; split <;> omega
    rw [cells27] at hx
    obtain ⟨b, off, sub⟩ := ad
    have each : ∀ i, i < len → ∃ q, SvAt W b off i q ∧ sub = none := fun i hi => by
      obtain ⟨cs', h1, h2⟩ := hx i (by omega)
      obtain ⟨_, hlen, hcell⟩ := World.cells?_some h1
      obtain ⟨cs0, z1, _⟩ := hx 0 (by omega)
      obtain ⟨_, zlen, zcell⟩ := World.cells?_some z1
      have hz := zcell 0 (by omega)
      rw [List.getElem?_eq_getElem (by omega)] at hz
      have hspot : sub = none := by simpa [Addr.add] using World.cell?_spot hz
      subst hspot
      obtain ⟨q, hq⟩ := sv_of (b := b) (off := off) (i := i) hlen (fun j hj => by
        have := hcell j hj
        rw [add_plain, add_plain] at this
        exact this) h2
      exact ⟨q, hq, rfl⟩
    obtain ⟨q, hq⟩ := Go.Deep.choose_lt (α := Sv × Option Addr × Nat) each
    refine ⟨fun i => if i < len then (q i).1 else ⟨0, 0, [], fun _ => 0⟩, fun i => (q i).2.1, fun i => (q i).2.2, ⟨fun i hi => ?_, fun i hi => ?_⟩, fun i => ?_, fun i hi => ?_⟩
    · obtain ⟨⟨h1, h2, h3, h4, _⟩, rfl⟩ := hq i hi
      simp only [if_pos hi]
      exact ⟨b, off, rfl, World.block_lt_of_cell? W _ h1, h1, h2, h3, h4⟩
    · simp only [if_pos hi]
      exact (hq i hi).1.2.2.2.2.1
    · by_cases hi : i < len
      · simp only [if_pos hi]
        obtain ⟨_, _, _, _, _, h6, h7, h8, h9⟩ := (hq i hi).1
        exact ⟨h6, h7, h8, h9⟩
      · simp only [if_neg hi]
        exact ⟨(by show 0 < 4294967296; omega), (by show 0 < 256; omega), fun m hm => (by cases hm), fun j => (by show 0 < 256; omega)⟩
    · simp only [if_neg (by omega : ¬ i < len)]
end Go.Proofs.YbulkbndkDoor.Pr
