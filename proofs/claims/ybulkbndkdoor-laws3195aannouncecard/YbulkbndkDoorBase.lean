/-
  What the walks of this seat say of memory; the small callees.
-/
import Derived.Test.YbulkbndkDoorRows
import Derived.WalkKit
import Derived.ProofKit
import Derived.OpenShut
import Derived.Handy
import Derived.Below
import Derived.Carry
import Derived.Deep.OwnRows
import Derived.Deep.QuietTactic
import Derived.BigQuiet
import Derived.RegionTactic
import Derived.BigRegion
import Derived.WalkSmall
import Derived.WalkMore
import Derived.Laws.BitsAllLaws
import Derived.Deep.AppendLies
import Derived.Deep.DeepCutAuto
import Derived.Deep.RegionHeld3
import Derived.Deep.DrawnRows
import Derived.Deep.LoopGhost
namespace Go.Proofs.YbulkbndkDoor.Pr
open Go.ChangeShapes Go.WideShapes Go.ChangeAt Go.RowKit

/-! ### Frames by the blocks' types -/
/-- What stood is as it was, but for blocks from B on whose cells are of a type of T. -/
structure Fr (B : Nat) (T : List TypeId) (w w' : World) : Prop where
  os : w'.os = w.os
  tape : w'.tape = w.tape
  output : w'.output = w.output
  size : w.heap.size ≤ w'.heap.size
  keep : ∀ k o, w.heap[k]? = some o → (B ≤ k → ∀ c t f, o = .cells c t f → t ∉ T) → w'.heap[k]? = some o

namespace Fr
variable {B : Nat} {T T' : List TypeId} {w w' w'' : World}
theorem refl (B : Nat) (T : List TypeId) (w : World) : Fr B T w w := ⟨rfl, rfl, rfl, Nat.le_refl _, fun _ _ h _ => h⟩
theorem trans (h : Fr B T w w') (k : Fr B T w' w'') : Fr B T w w'' :=
  ⟨k.os.trans h.os, k.tape.trans h.tape, k.output.trans h.output, Nat.le_trans h.size k.size, fun j o ho ht => k.keep j o (h.keep j o ho ht) ht⟩
theorem mono (h : Fr B T w w') (hT : ∀ t, t ∈ T → t ∈ T') : Fr B T' w w' :=
  ⟨h.os, h.tape, h.output, h.size, fun k o ho ht => h.keep k o ho fun hk c t f e hm => ht hk c t f e (hT t hm)⟩
theorem up {B' : Nat} (h : Fr B T w w') (hB : B' ≤ B) : Fr B' T w w' :=
  ⟨h.os, h.tape, h.output, h.size, fun k o ho ht => h.keep k o ho fun hk => ht (Nat.le_trans hB hk)⟩
/-- New blocks do not count. -/
theorem fresh {T0 : List TypeId} (h : Fr w.heap.size T0 w w') : Fr B T w w' :=
  ⟨h.os, h.tape, h.output, h.size, fun k o ho _ => h.keep k o ho fun hk => by have := (Array.getElem?_eq_some_iff.1 ho).1; omega⟩
theorem drewN (h : Fr B T w w') (n : Nat) : Fr B T w (w'.drewN n) := ⟨h.os, h.tape, h.output, h.size, h.keep⟩
theorem drew (h : Fr B T w w') : Fr B T w w'.drew := ⟨h.os, h.tape, h.output, h.size, h.keep⟩
theorem alloc (h : Fr B T w w') (o : Obj) : Fr B T w (w'.alloc o) :=
  ⟨h.os, h.tape, h.output, by have := h.size; simp; omega, fun k o' hk hd => by
    have hlt := (Array.getElem?_eq_some_iff.1 hk).1
    exact (Below.heap_alloc _ _ _ (by have := h.size; omega)).trans (h.keep k o' hk hd)⟩
theorem setCell (h : Fr B T w w') {a : Addr} (ha : w.heap.size ≤ a.block ∨ (B ≤ a.block ∧ ∃ c t f, w'.heap[a.block]? = some (.cells c t f) ∧ t ∈ T)) (v : Value) : Fr B T w (w'.setCell a v) :=
  ⟨h.os, h.tape, h.output, by have := h.size; simp [World.setCell]; omega, fun k o hk hd => by
    have hlt := (Array.getElem?_eq_some_iff.1 hk).1
    have h1 := h.keep k o hk hd
    refine (Below.heap_setCell _ _ _ _ (fun e => ?_)).trans h1
    rcases ha with ha | ⟨hB, c, t, f, hc, ht⟩
    · omega
    · have e : k = a.block := by omega
      rw [← e] at hc
      rw [hc] at h1
      exact hd (by omega) c t f (Option.some.inj h1).symm ht⟩
theorem grown (h : Fr B T w w') {row : Option Nat} (hg : w'.grownBy w'' row) (hr : ∀ k, row = some k → w.heap.size ≤ k ∨ (B ≤ k ∧ ∃ c t f, w'.heap[k]? = some (.cells c t f) ∧ t ∈ T)) : Fr B T w w'' :=
  ⟨hg.os.trans h.os, hg.tape.trans h.tape, hg.output.trans h.output, Nat.le_trans h.size hg.size, fun k o hk hd => by
    have hlt := (Array.getElem?_eq_some_iff.1 hk).1
    have h1 := h.keep k o hk hd
    refine (hg.block k (by have := h.size; omega) (fun e => ?_)).trans h1
    rcases hr k e.symm with ha | ⟨hB, c, t, f, hc, ht⟩
    · omega
    · rw [hc] at h1
      exact hd hB c t f (Option.some.inj h1).symm ht⟩
theorem below (h : Fr B T w w') {m : Nat} (hm : m ≤ B) (hs : m ≤ w.heap.size) : Below m w w' :=
  ⟨h.os, h.tape, h.output, h.size, fun k hk => by
    have hlt : k < w.heap.size := by omega
    rw [h.keep k _ (Array.getElem?_eq_getElem hlt) (fun hB => by omega), Array.getElem?_eq_getElem hlt]⟩
theorem row {b n : Nat} {t : TypeId} {f : Nat → Value} (h : Fr B T w w') (hr : w.rowIs b t n f) (ht : t ∉ T) : w'.rowIs b t n f := by
  obtain ⟨c, hc, h1⟩ := hr
  exact ⟨c, h.keep b _ hc (fun _ c' t' f' e => by cases e; exact ht), h1⟩
theorem owns {base e size n : Nat} {v : Value} {xs : List Value} (h : Fr B T w w') (hr : w.ownsRow base e size v n xs) (ht : e ∉ T) : w'.ownsRow base e size v n xs := by
  refine ⟨hr.1, ?_⟩
  rcases hr.2 with h2 | ⟨g, cap, cur, hv, hg, hh, r⟩
  · exact Or.inl h2
  · exact Or.inr ⟨g, cap, cur, hv, hg, h.keep g _ hh (fun _ c' t' f' e => by cases e; exact ht), r⟩
theorem map {b : Nat} {es : Array MapEntry} {cl : Nat} (h : Fr B T w w') (hm : w.heap[b]? = some (.map es cl)) : w'.heap[b]? = some (.map es cl) :=
  h.keep b _ hm (fun _ c' t' f' e => by cases e)
theorem cellLow {a : Addr} {v : Value} (h : Fr B T w w') (ha : a.block < B) (hc : w.cell? a = some v) : w'.cell? a = some v := by
  have hlt := World.block_lt_of_cell? w _ hc
  rw [World.cell?_of_block (w := w) (w' := w')]
  · exact hc
  · rw [h.keep a.block _ (Array.getElem?_eq_getElem hlt) (fun hB => by omega), Array.getElem?_eq_getElem hlt]
theorem none {B' : Nat} (h : Fr B' [] w w') : Fr B T w w' := ⟨h.os, h.tape, h.output, h.size, fun k o ho _ => h.keep k o ho fun _ _ _ _ _ => by simp⟩
/-- A frame that lets nothing turn. -/
theorem keepCell {a : Addr} {v : Value} (h : Fr B T w w') (hc : w.cell? a = some v) (hT : T = []) : w'.cell? a = some v := by
  subst hT
  have hlt := World.block_lt_of_cell? w _ hc
  rw [World.cell?_of_block (w := w) (w' := w')]
  · exact hc
  · rw [h.keep a.block _ (Array.getElem?_eq_getElem hlt) (fun hB c t f _ => by simp), Array.getElem?_eq_getElem hlt]
end Fr

theorem ownsRow_of_block {w w' : World} {base e size n : Nat} {v : Value} {xs : List Value} (h : w.ownsRow base e size v n xs)
    (hb : ∀ g, v.ownBlock = some g → w'.heap[g]? = w.heap[g]?) : w'.ownsRow base e size v n xs := by
  refine ⟨h.1, ?_⟩
  rcases h.2 with h2 | ⟨g, cap, cur, hv, hg, hh, r⟩
  · exact Or.inl h2
  · exact Or.inr ⟨g, cap, cur, hv, hg, (hb g (by rw [hv]; rfl)).trans hh, r⟩
theorem ownsRow_lt {w : World} {base e size n : Nat} {v : Value} {xs : List Value} (h : w.ownsRow base e size v n xs) (g : Nat) (hg : v.ownBlock = some g) : g < w.heap.size := by
  rcases h.2 with ⟨hv, _⟩ | ⟨g', cap, cur, hv, _, hh, _⟩
  · rw [hv] at hg; cases hg
  · rw [hv] at hg
    obtain rfl : g' = g := by simpa [Value.ownBlock] using hg
    obtain ⟨hlt, _⟩ := Array.getElem?_eq_some_iff.1 hh
    exact hlt
theorem ownsRow_tag {w : World} {base e size n : Nat} {v : Value} {xs : List Value} (h : w.ownsRow base e size v n xs) (g : Nat) (hg : v.ownBlock = some g) : base ≤ g ∧ ∃ c, w.heap[g]? = some (.cells c e (0, 0)) := by
  rcases h.2 with ⟨hv, _⟩ | ⟨g', cap, cur, hv, hb, hh, _⟩
  · rw [hv] at hg; cases hg
  · rw [hv] at hg
    obtain rfl : g' = g := by simpa [Value.ownBlock] using hg
    exact ⟨hb, cur, hh⟩
theorem row_tag {w : World} {b n : Nat} {t : TypeId} {f : Nat → Value} (h : w.rowIs b t n f) : ∃ c, w.heap[b]? = some (.cells c t (0, 0)) := by
  obtain ⟨c, hc, _⟩ := h
  exact ⟨c, hc⟩
theorem tag_ne {w : World} {a b : Nat} {c c' : Array Value} {t t' : TypeId} {f f' : Nat × Nat} (h : w.heap[a]? = some (.cells c t f)) (h' : w.heap[b]? = some (.cells c' t' f')) (hne : t ≠ t') : a ≠ b := by
  rintro rfl
  rw [h] at h'
  cases h'
  exact hne rfl
/-- The value of an owned row is a slice; its cells. -/
theorem own_shape {w : World} {base e size n : Nat} {v : Value} {xs : List Value} (h : w.ownsRow base e size v n xs) : ∃ a cap, v = .slice a n cap ∧ ∀ i u, xs[i]? = some u → ∃ b, a = some ⟨b, 0, none⟩ ∧ w.cell? ⟨b, i, none⟩ = some u := by
  rcases h.2 with ⟨hv, h0⟩ | ⟨g, cap, cur, hv, hb, hh, hn, hc, hs, ht⟩
  · subst h0
    refine ⟨none, 0, hv, fun i u hu => ?_⟩
    have := h.1
    simp at this
    subst this
    simp at hu
  · refine ⟨some ⟨g, 0, none⟩, cap, hv, fun i u hu => ⟨g, rfl, ?_⟩⟩
    rw [cell_of_row w g i cur e (0, 0) hh]
    rw [← ht, List.getElem?_take] at hu
    split at hu
    · simpa using hu
    · cases hu

/-! ### The types -/
theorem info5 : (Ybad.prog.info? 5).map (fun i => (i.zero, i.size, i.bytes)) = some (some (.int .u8 0), 1, 1) := by kernel_rfl
theorem info3 : (Ybad.prog.info? 3).map (fun i => (i.zero, i.size, i.bytes)) = some (some (.int .i64 0), 1, 8) := by kernel_rfl
theorem info34 : (Ybad.prog.info? 34).map (fun i => (i.zero, i.size, i.bytes)) = some (some (.pointer none), 1, 8) := by kernel_rfl
theorem info32 : (Ybad.prog.info? 32).map (fun i => (i.zero, i.size, i.bytes)) = some (some (.pointer none), 1, 8) := by kernel_rfl
theorem info72 : (Ybad.prog.info? 72).map (fun i => (i.zero, i.size, i.bytes)) = some (some (.pointer none), 1, 8) := by kernel_rfl
theorem info98 : (Ybad.prog.info? 98).map (fun i => (i.zero, i.size, i.bytes)) = some (some (.agg #[.int .u32 0, .int .u32 0]), 2, 8) := by kernel_rfl
theorem info137 : (Ybad.prog.info? 137).map (fun i => (i.zero, i.size, i.bytes)) = some (some (.agg #[.pointer none, .int .u64 0, .int .i64 0, .pointer none]), 4, 32) := by kernel_rfl
theorem info152 : (Ybad.prog.info? 152).map (fun i => (i.zero, i.size, i.bytes)) = some (some (.agg #[.int .u16 0, .slice none 0 0]), 2, 32) := by kernel_rfl

/-! ### The small callees -/
def sDown : Value := .string ⟨#[65, 83, 80, 45, 68, 79, 87, 78]⟩
def sInactive : Value := .string ⟨#[65, 83, 80, 45, 73, 78, 65, 67, 84, 73, 86, 69]⟩
def sActive : Value := .string ⟨#[65, 83, 80, 45, 65, 67, 84, 73, 86, 69]⟩
def aspS (b : Nat) : Value := if b % 3 = 0 then sDown else if b % 3 = 1 then sInactive else sActive
def asS (b : Nat) : Value := if b % 4 = 0 then .string ⟨#[65, 83, 45, 68, 79, 87, 78]⟩ else if b % 4 = 1 then .string ⟨#[65, 83, 45, 73, 78, 65, 67, 84, 73, 86, 69]⟩ else if b % 4 = 2 then .string ⟨#[65, 83, 45, 65, 67, 84, 73, 86, 69]⟩ else .string ⟨#[65, 83, 45, 80, 69, 78, 68, 73, 78, 71]⟩
def asN (b : Nat) : Nat := if b % 4 = 0 then 0 else if b % 4 = 1 then 65538 else if b % 4 = 2 then 65539 else 65540

theorem asState_any (b : Nat) (hb : b < 256) (w : World) : Calls Ybad.prog 4 #[.int .u8 (b : Int)] w fun e w' => e = .returned (.tuple #[asS b, .int .u32 (asN b : Int)]) ∧ w' = w := by
  obtain ⟨r, hr⟩ : ∃ r, r = b % 4 := ⟨_, rfl⟩
  have hm : (b : Int) % 4 = (r : Int) := by omega
  have h4 : r < 4 := by omega
  unfold asS asN
  rw [← hr]
  have HR : Hid (_) := hr
  clear hr
  rcases (by omega : r = 0 ∨ r = 1 ∨ r = 2 ∨ r = 3) with rfl | rfl | rfl | rfl
  all_goals
    go_enter Ybad.func4, Ybad.ntmps4
    go_wp2
    go_ret2
    exact ⟨rfl, rfl⟩

theorem aspState_any (b : Nat) (hb : b < 256) (w : World) : Calls Ybad.prog 5 #[.int .u8 (b : Int)] w fun e w' => e = .returned (aspS b) ∧ w' = w := by
  obtain ⟨r, hr⟩ : ∃ r, r = b % 3 := ⟨_, rfl⟩
  have hm : (b : Int) % 3 = (r : Int) := by omega
  have h4 : r < 3 := by omega
  unfold aspS
  rw [← hr]
  have HR : Hid (_) := hr
  clear hr
  rcases (by omega : r = 0 ∨ r = 1 ∨ r = 2) with rfl | rfl | rfl
  all_goals
    go_enter Ybad.func5, Ybad.ntmps5
    go_wp2
    go_ret
    exact ⟨rfl, rfl⟩

theorem isZero_any (w : World) : Calls Ybad.prog 13 #[.agg #[.int .u64 0, .int .i64 0, .pointer none]] w fun e w' => e = .returned (.bool true) ∧ w' = w.alloc (.cells #[.int .u64 0, .int .i64 0, .pointer none] 60) := by
  go_enter Ybad.func13, Ybad.ntmps13
  go_wp2
  go_ret
  exact ⟨rfl, rfl⟩
end Go.Proofs.YbulkbndkDoor.Pr
