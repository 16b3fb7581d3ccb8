/-
  The library's sorts at this program's rows (functions 23, 28, 21).
-/
import Derived.Test.YbulkbnbuPlainD
import Derived.Test.YbulkbnbuBs
namespace Go.Proofs.Ybulkbnbu.Kn
set_option linter.unusedSimpArgs false
set_option linter.unusedVariables false
open Go.ChangeShapes Go.WideShapes Go.ChangeAt Go.RowKit
open Go.Proofs.Ybulkbnbu.Fl Go.Proofs.Ybulkbnbu.Pl Go.Sort

theorem heap_putRow_other {α : Type} [Inhabited α] (enc : α → Value) (w : World) (blk off : Nat) (d : Array α) (k : Nat) (h : k ≠ blk) : (putRow enc w blk off d).heap[k]? = w.heap[k]? := by
  unfold putRow mapBlock
  simp only [Array.getElem?_modify]
  rw [if_neg (Ne.symm h)]
theorem keeps_put {α : Type} [Inhabited α] (enc : α → Value) (w : World) (blk off n : Nat) (d : Array α) (os : Array Obj) : Keeps (fun k => k = blk) w (grow (putRow enc (Sort.ahead w n) blk off d) os) := by
  refine ⟨rfl, rfl, rfl, by simp [putRow, mapBlock], fun k hk hd => ?_⟩
  rw [heap_grow_old _ _ (by simpa [putRow, mapBlock] using hk), heap_putRow_other _ _ _ _ _ _ hd]
  rfl

set_option maxRecDepth 100000 in
theorem sort24 (ob bx ib n c : Nat) (s v : Nat → Nat) (w : World) (hn : 0 < n) (hn12 : n ≤ 1000) (hv : ∀ i, v i < 1000) (hrow : w.rowIs ob 3 n (fun j => .int .i64 (j : Int))) (hbx : w.cell? ⟨bx, 0, none⟩ = some (.slice (some ⟨ib, 0, none⟩) n c)) (hI : ∀ i, i < n → w.cell? ⟨ib, i * 2, none⟩ = some (.int .i64 (s i : Int)) ∧ w.cell? ⟨ib, i * 2 + 1, none⟩ = some (.float .f64 (W (v i)))) (nbx : bx ≠ ob) (nib : ib ≠ ob) :
    Calls Yba.prog 23 #[.slice (some ⟨ob, 0, none⟩) n n, .func (.func 24) #[] #[.pointer (some ⟨bx, 0, none⟩)]] w fun e w' => e = .returned (.tuple #[]) ∧ (∀ j, j < n → w'.cell? ⟨ob, j, none⟩ = some (.int .i64 ((plc (srt (n := n) s v) j : Nat) : Int))) ∧ Keeps (fun k => k = ob) w w' := by
  haveI : Inhabited (Fin n) := ⟨⟨0, hn⟩⟩
  have eg : ∀ args w, (callFunc 24 args).run Yba.prog w = .ok (.enter 24 args) w := enters_of Yba.func24 (by kernel_rfl) rfl
  have hds : ((List.finRange n).toArray).size = n := by simp
  have hH : Holds (fun x : Fin n => Value.int .i64 (x.val : Int)) w ob 0 (List.finRange n).toArray := fun j hj => by
    rw [hds] at hj
    rw [Nat.zero_add]
    refine ⟨?_, hrow.frozen j⟩
    rw [hrow.cell hj, getElem!_pos _ j (by rw [hds]; exact hj)]
    simp
  have hcmp : CmpLays1 Yba.prog 24 #[.pointer (some ⟨bx, 0, none⟩)] (fun x : Fin n => Value.int .i64 (x.val : Int)) (cfn s v) ob 0 (List.finRange n).toArray.size w := by
    intro m os dk hs x y
    have cl : ∀ {a : Addr} {u : Value}, w.cell? a = some u → a.block ≠ ob → (sortWorld (fun x : Fin n => Value.int .i64 (x.val : Int)) w ob 0 m dk os).cell? a = some u := fun {a u} hc hne => by
      have hl := World.block_lt_of_cell? w _ hc
      unfold sortWorld
      rw [cell?_grow _ _ _ (by simpa [putRow, mapBlock] using hl), cell?_putRow_other _ _ _ _ _ _ (Or.inl hne)]
      exact hc
    exact cmp24 bx ib n c x.val y.val (v x.val) (v y.val) (s x.val) (s y.val) _ (cl hbx nbx) (cl (hI x.val x.isLt).1 nib) (cl (hI x.val x.isLt).2 nib) (cl (hI y.val y.isLt).1 nib) (cl (hI y.val y.isLt).2 nib) x.isLt y.isLt (hv _) (hv _)
  have h := Yba.slices_SortFunc_total (fun x : Fin n => Value.int .i64 (x.val : Int)) (fun _ => rfl) (cfn s v) (swo s v) 24 #[.pointer (some ⟨bx, 0, none⟩)] ob 0 n (List.finRange n).toArray w eg hcmp hH hrow.lt (by rw [hds]; omega) (tot s v)
  rw [hds] at h
  refine h.mono ?_
  rintro e w' ⟨he, q, os, rfl⟩
  have hsl := srt_len (n := n) s v
  refine ⟨he, fun j hj => ?_, keeps_put _ _ _ _ _ _ _⟩
  unfold sortWorld
  have hsz : ((srt (n := n) s v).toArray).size = ((List.finRange n).toArray).size := by rw [hds]; simp [hsl]
  have hc := cell?_putRow (fun x : Fin n => Value.int .i64 (x.val : Int)) (Sort.ahead w q) ob 0 (List.finRange n).toArray (srt (n := n) s v).toArray hH hsz j (by rw [hsz, hds]; exact hj)
  rw [Nat.zero_add] at hc
  rw [cell?_grow _ _ _ (by simpa [putRow, mapBlock] using hrow.lt)]
  refine hc.trans ?_
  rw [getElem!_pos _ j (by rw [hsz, hds]; exact hj)]
  unfold plc
  simp [hsl, hj]

theorem own_holds {B g c : Nat} {zs : List Nat} {w : World} (h : w.ownsRow B 3 1 (.slice (some ⟨g, 0, none⟩) zs.length c) zs.length (ints zs)) : Holds (Value.int .i64) w g 0 (zs.map fun (a : Nat) => (a : Int)).toArray := by
  intro j hj
  have hj' : j < zs.length := by simpa using hj
  rw [Nat.zero_add]
  have hc := own_ints h j zs[j] (by simp [hj'])
  refine ⟨?_, ?_⟩
  · rw [hc, getElem!_pos _ j hj]; simp
  · obtain ⟨_, cc, hh⟩ := ownsRow_tag h g rfl
    have hr : w.rowIs g 3 cc.size (fun i => cc[i]!) := ⟨cc, hh, rfl, fun i hi => by simp [hi, getElem!_pos]⟩
    exact hr.frozen j

theorem sort28 (B g c : Nat) (o s : Nat → Nat) (cap n : Nat) (w : World) (h : w.ownsRow B 3 1 (.slice (some ⟨g, 0, none⟩) (kl o s cap n).length c) (kl o s cap n).length (ints (kl o s cap n))) (hn : (kl o s cap n).length ≤ 1000) :
    Calls Yba.prog 28 #[.slice (some ⟨g, 0, none⟩) (kl o s cap n).length c] w fun e w' => e = .returned (.tuple #[]) ∧ (∀ (j y : Nat), (kpt o s cap n)[j]? = some y → w'.cell? ⟨g, j, none⟩ = some (.int .i64 (y : Int))) ∧ Keeps (fun k => k = g) w w' := by
  have hH := own_holds h
  have hc := Yba.slices_Sort_int g 0 c ((kl o s cap n).map fun (a : Nat) => (a : Int)) w hH (ownsRow_lt h g rfl) (by simp; omega)
  rw [List.length_map, kpt_int] at hc
  refine hc.mono ?_
  rintro e w' ⟨he, q, os, rfl⟩
  have hpl : (kpt o s cap n).length = (kl o s cap n).length := (kpt_perm o s cap n).length_eq
  refine ⟨he, fun j y hj => ?_, keeps_put _ _ _ _ _ _ _⟩
  have hj' : j < (kpt o s cap n).length := (List.getElem?_eq_some_iff.1 hj).1
  have hcc := cell?_putRow (Value.int .i64) (Sort.ahead w q) g 0 _ ((kpt o s cap n).map fun (a : Nat) => (a : Int)).toArray hH (by simp [hpl]) j (by simpa using hj')
  rw [Nat.zero_add] at hcc
  rw [cell?_grow _ _ _ (by simpa [putRow, mapBlock] using ownsRow_lt h g rfl)]
  refine hcc.trans ?_
  rw [getElem!_pos _ j (by simpa using hj')]
  have := (List.getElem?_eq_some_iff.1 hj).2
  simp [this]

theorem rev21 (B g c : Nat) (zs : List Nat) (w : World) (h : w.ownsRow B 3 1 (.slice (some ⟨g, 0, none⟩) zs.length c) zs.length (ints zs)) (hn : zs.length ≤ 1000) :
    Calls Yba.prog 21 #[.slice (some ⟨g, 0, none⟩) zs.length c] w fun e w' => e = .returned (.tuple #[]) ∧ (∀ (j y : Nat), zs.reverse[j]? = some y → w'.cell? ⟨g, j, none⟩ = some (.int .i64 (y : Int))) ∧ Keeps (fun k => k = g) w w' := by
  have hH := own_holds h
  have hc := Yba.slices_Reverse_int g 0 c (zs.map fun (a : Nat) => (a : Int)) w hH (by simp; omega)
  rw [List.length_map] at hc
  refine hc.mono ?_
  rintro e w' ⟨he, q, rfl⟩
  refine ⟨he, fun j y hj => ?_, ?_⟩
  · have hj' : j < zs.length := by have := (List.getElem?_eq_some_iff.1 hj).1; simpa using this
    have hcc := cell?_putRow (Value.int .i64) (Sort.ahead w q) g 0 _ (zs.map fun (a : Nat) => (a : Int)).reverse.toArray hH (by simp) j (by simpa using hj')
    rw [Nat.zero_add] at hcc
    refine hcc.trans ?_
    rw [getElem!_pos _ j (by simpa using hj')]
    have := (List.getElem?_eq_some_iff.1 hj).2
    rw [List.getElem_reverse] at this
    simp [this]
  · have := keeps_put (Value.int .i64) w g 0 q (zs.map fun (a : Nat) => (a : Int)).reverse.toArray #[]
    rwa [grow_empty] at this
end Go.Proofs.Ybulkbnbu.Kn
