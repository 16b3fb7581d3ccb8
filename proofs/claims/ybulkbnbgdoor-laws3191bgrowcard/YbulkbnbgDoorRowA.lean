/-
  The rows of the two laws: the listed table; the drawn arcs as data.
-/
import Derived.Test.YbulkbnbgDoorLawB
import Derived.Test.YbulkbnbgDoorRows
import Derived.ProofKit
import Derived.ChangeSame
import Derived.ChangeVars
import Derived.JoinedOf
import Derived.RowKit
import Derived.LaidLaws
namespace Go.Proofs.YbulkbnbgDoor.Pr
open Go.ChangeShapes Go.WideShapes Go.ChangeAt Go.RowKit

theorem own_knob : ownKnob Ybad.prog.godebug = none := by kernel_rfl
theorem laid_out : laidOutB Ybad.prog = true := by kernel_rfl
theorem tab_global : Ybad.prog.globalNamed "math/bits.deBruijn64tab" = some 0 := by kernel_rfl

theorem mapM_get {α β : Type} (f : α → Option β) : ∀ (l : List α) (xs : List β), l.mapM f = some xs → ∀ (i : Nat) (a : α), l[i]? = some a → ∃ b, f a = some b ∧ xs[i]? = some b
  | [], xs, _, i, a, h => by simp at h
  | x :: l, xs, h, i, a, ha => by
    simp only [List.mapM_cons, Option.bind_eq_bind, Option.bind_eq_some_iff, Option.pure_def, Option.some.injEq] at h
    obtain ⟨b, hb, bs, hbs, rfl⟩ := h
    cases i with
    | zero => simp at ha; subst ha; exact ⟨b, hb, by simp⟩
    | succ i => simp at ha; obtain ⟨c, h1, h2⟩ := mapM_get f l bs hbs i a ha; exact ⟨c, h1, by simpa using h2⟩

theorem int_of_trod {H : Type} {enc : TypeId × Value → H} {P : Program} {w : World} {base : Nat} {sp : Nat → Bool} {held : Bool} {fuel : Nat} {t : TypeId} {k : IntKind} {c : Value} {y : DataW H × List MemPlace}
    (ht : P.underlying t = some (.int k)) (h : DataW.trod enc P w base sp held fuel t [c] = some y) : ∃ n, c = .int k n ∧ y = (.lit (.int k n), []) := by
  cases fuel with
  | zero => simp [DataW.trod] at h
  | succ fuel =>
    cases c <;> simp [DataW.trod, ht] at h
    rename_i k' n
    obtain ⟨⟨rfl, _⟩, rfl⟩ := h
    exact ⟨n, rfl, rfl⟩

theorem tab_type : (Ybad.prog.globals[0]?).map (·.type) = some 77 := by kernel_rfl
theorem cells77 : Ybad.prog.cellsOf 77 = 64 := by kernel_rfl
theorem cells5 : Ybad.prog.cellsOf 5 = 1 := by kernel_rfl
theorem laid_lits : DataW.agg (Lib.deBruijn64tab.map fun (k : Nat) => (DataW.lit (.int .u8 (k : Int)) : DataW Unit)) = (Rows.laid_math_bits_deBruijn64tab : DataW Unit) := by kernel_rfl

theorem tab_of_laid {W : World} (h : laidMetH Ybad.prog [("math/bits.deBruijn64tab", Rows.laid_math_bits_deBruijn64tab)] W) : Tab W := by
  have h' : laidMet Ybad.prog [("math/bits.deBruijn64tab", Rows.laid_math_bits_deBruijn64tab)] W := h
  obtain ⟨ps, ⟨g, t, cs, fuel, p, q, hg, ht, hvar, hd, _, _⟩, _⟩ := h'
  obtain rfl := Option.some.inj (tab_global.symm.trans hg)
  intro j hj
  have hc := World.var?_cell hg hvar j
  obtain rfl := Option.some.inj (tab_type.symm.trans ht)
  cases fuel with
  | zero => simp [DataW.trod] at hd
  | succ fuel =>
    simp only [DataW.trod, Ybad.underlying77, cells77, cells5] at hd
    split at hd
    · rename_i hl
      simp only [Option.map_eq_some_iff] at hd
      obtain ⟨xs, hm, hx⟩ := hd
      obtain ⟨y, hy, hxy⟩ := mapM_get _ _ _ hm j j (by rw [List.getElem?_range hj])
      have hlt : j < cs.toList.length := by rw [hl]; exact hj
      have e : (cs.toList.drop (j * 1)).take 1 = [cs.toList[j]] := by
        rw [Nat.mul_one, List.drop_eq_getElem_cons hlt]; rfl
      rw [e] at hy
      obtain ⟨m, hcm, rfl⟩ := int_of_trod Ybad.underlying5 hy
      have hag : DataW.agg (xs.map (·.1)) = (Rows.laid_math_bits_deBruijn64tab : DataW Unit) := congrArg Prod.fst hx
      have hlit : (Lib.deBruijn64tab.map fun (k : Nat) => (DataW.lit (.int .u8 (k : Int)) : DataW Unit)) = xs.map (·.1) := (DataW.agg.inj ((laid_lits).trans hag.symm))
      have h1 : (xs.map (·.1))[j]? = some (.lit (.int .u8 m)) := by rw [List.getElem?_map, hxy]; rfl
      rw [← hlit, List.getElem?_map] at h1
      have hj2 : j < Lib.deBruijn64tab.length := by have : Lib.deBruijn64tab.length = 64 := rfl; omega
      rw [List.getElem?_eq_getElem hj2] at h1
      have hm2 : m = ((Lib.deBruijn64tab[j] : Nat) : Int) := by simpa using h1.symm
      rw [hc, ← Array.getElem?_toList, List.getElem?_eq_getElem hlt, hcm, hm2, List.getD_eq_getElem?_getD, List.getElem?_eq_getElem hj2]
      rfl
    · cases hd
end Go.Proofs.YbulkbnbgDoor.Pr
