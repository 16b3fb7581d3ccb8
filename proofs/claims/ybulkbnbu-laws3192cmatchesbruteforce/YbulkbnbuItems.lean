/-
  The walks of 'zzs3192citems' (function 5) and of the early way through 'Best' (function 7): every item fits.
-/
import Derived.Test.YbulkbnbuRows
import Derived.Test.YbulkbnbuFloat
import Derived.WalkKit
import Derived.ProofKit
import Derived.OpenShut
import Derived.Handy
import Derived.Below
import Derived.Carry
import Derived.Laws.FloatArith
import Derived.RegionTactic
import Derived.BigRegion
import Derived.Deep.OwnRows
namespace Go.Proofs.Ybulkbnbu.Kn
open Go.ChangeShapes Go.WideShapes Go.ChangeAt Go.RowKit
open Go.Proofs.Ybulkbnbu.Fl

theorem info28 : (Yba.prog.info? 28).map (fun i => (i.zero, i.size, i.bytes)) = some (some (.agg #[.int .i64 0, .float .f64 0]), 2, 16) := by kernel_rfl
theorem info3 : (Yba.prog.info? 3).map (fun i => (i.zero, i.size, i.bytes)) = some (some (.int .i64 0), 1, 8) := by kernel_rfl

theorem run_store_float {P : Program} {w : World} {a : Addr} {m : Mode} (k : FloatKind) (b : Nat) : (store a (.float k b) m).run P w = stored P w a (.float k b) m := run_store P w a _ m rfl
attribute [local go_sem] run_store_float

/-- The items' cells: sizes and values by turns. -/
def itemF (sz : Nat → Int) (vl : Nat → Nat) (j : Nat) : Value := if j % 2 = 0 then .int .i64 (sz (j / 2)) else .float .f64 (W (vl (j / 2)))
def partF (sz : Nat → Int) (vl : Nat → Nat) (k j : Nat) : Value := if j / 2 < k then itemF sz vl j else if j % 2 = 0 then .int .i64 0 else .float .f64 0

theorem made (w : World) (n : Nat) (sz : Nat → Int) (vl : Nat → Nat) : (w.alloc (.cells (madeCells (Value.agg #[.int .i64 0, .float .f64 0]).cells (n * 2)) 28)).rowIs w.heap.size 28 (n * 2) (partF sz vl 0) := by
  have h := World.rowIs_alloc w (madeCells (Value.agg #[.int .i64 0, .float .f64 0]).cells (n * 2)) 28 (partF sz vl 0) (fun i hi => by
    rw [size_madeCells] at hi
    simp only [madeCells, Array.getElem?_map, Array.getElem?_range, hi, if_true, Option.map_some, Value.cells, partF, Nat.not_lt_zero, if_false]
    congr 1
    show (#[Value.int .i64 0, .float .f64 0] : Array Value)[i % 2]! = _
    rcases Nat.mod_two_eq_zero_or_one i with e | e <;> rw [e] <;> rfl)
  rwa [size_madeCells] at h

theorem made_run (w : World) (n : Nat) (hn : n ≤ 1024) : (Instr.makeSlice 23 (.int .i64 (n : Int)) (.int .i64 (n : Int))).run Yba.prog w = .ok (.slice (some ⟨w.heap.size, 0, none⟩) n n) (w.alloc (.cells (madeCells (Value.agg #[.int .i64 0, .float .f64 0]).cells (n * 2)) 28)) := by
  obtain ⟨i, hi, hz, hs, hb⟩ := info_parts info28
  have hr := run_make (P := Yba.prog) w 23 28 i _ Yba.underlying23 hi hz .i64 .i64 n n (by omega) (Int.le_refl _) (by rw [hb]; omega) (by omega)
  simpa [hs] using hr

theorem float_nat (y : Int) (h : 0 ≤ y) : floatOfInt .f64 y = W y.toNat := by
  obtain ⟨n, rfl⟩ := Int.eq_ofNat_of_zero_le h
  show Ieee.double.nearest (decide ((n : Int) < 0)) (n : Int).natAbs 0 = _
  have : decide ((n : Int) < 0) = false := decide_eq_false (by omega)
  rw [this]; rfl

/-- WHAT THE WALK IS TOLD OF A SLICE OF BYTES THAT CAME IN. -/
def Src (w : World) (a : Option Addr) (len : Nat) (z : List Int) : Prop :=
  ∀ i, i < len → ∃ b off, a = some ⟨b, off, none⟩ ∧ b < w.heap.size ∧ w.cell? ⟨b, off + i, none⟩ = some (.int .u8 (z.getD i 0)) ∧ 0 ≤ z.getD i 0 ∧ z.getD i 0 ≤ 255

def szOf (z : List Int) (i : Nat) : Int := z.getD i 0 % 7 + 1
def vlOf (z : List Int) (i : Nat) : Nat := (z.getD i 0 % 10).toNat
theorem szOf_bd (z : List Int) (i : Nat) : 1 ≤ szOf z i ∧ szOf z i ≤ 7 := by unfold szOf; omega
theorem vlOf_bd (z : List Int) (i : Nat) : vlOf z i ≤ 9 := by unfold vlOf; omega

theorem part_step (sz : Nat → Int) (vl : Nat → Nat) (k j : Nat) : (if j = k * 2 + 1 then .float .f64 (W (vl k)) else if j = k * 2 then .int .i64 (sz k) else partF sz vl k j) = partF sz vl (k + 1) j := by
  unfold partF itemF
  by_cases h1 : j = k * 2 + 1
  · subst h1
    rw [if_pos rfl, if_pos (by omega), if_neg (by omega)]
    congr 3; omega
  · rw [if_neg h1]
    by_cases h2 : j = k * 2
    · subst h2
      rw [if_pos rfl, if_pos (by omega), if_pos (by omega)]
      congr 2; omega
    · rw [if_neg h2]
      by_cases h3 : j / 2 < k
      · rw [if_pos h3, if_pos (show j / 2 < k + 1 by omega)]
      · rw [if_neg h3, if_neg (show ¬ j / 2 < k + 1 by omega)]

theorem part_end (sz : Nat → Int) (vl : Nat → Nat) (n j : Nat) (h : j < n * 2) : partF sz vl n j = itemF sz vl j := by
  unfold partF; rw [if_pos (by omega)]

set_option maxHeartbeats 1000000 in
theorem items_any (a0 : Option Addr) (len0 cap0 : Nat) (z0 : List Int) (a1 : Option Addr) (len1 cap1 : Nat) (z1 : List Int) (n : Nat) (w : World)
    (h0 : Src w a0 len0 z0) (h1 : Src w a1 len1 z1) (n0 : n ≤ len0) (n1 : n ≤ len1) (hn : n ≤ 1024) :
    Calls Yba.prog 5 #[.slice a0 len0 cap0, .slice a1 len1 cap1, .int .i64 n] w fun e w' => e = .returned (.slice (some ⟨w.heap.size, 0, none⟩) n n) ∧ w'.rowIs w.heap.size 28 (n * 2) (itemF (szOf z0) (vlOf z1)) ∧ Below w.heap.size w w' := by
  have hmk := made_run w n hn
  go_enter Yba.func5, Yba.ntmps5
  go_wp2
  have hrow := made w n (szOf z0) (vlOf z1)
  have hb1 := (Below.refl w.heap.size w).alloc (Nat.le_refl _) (.cells (madeCells (Value.agg #[.int .i64 0, .float .f64 0]).cells (n * 2)) 28)
  clear hmk
  go_loopw [8] (fun i wr => ∃ k : Nat, k ≤ n ∧ i = .int .i64 k ∧ wr.rowIs w.heap.size 28 (n * 2) (partF (szOf z0) (vlOf z1) k) ∧ Below w.heap.size w wr) (fun i _ => n - (intOf i).toNat)
  case atStart => exact ⟨0, Nat.zero_le _, rfl, hrow, hb1⟩
  case round =>
    obtain ⟨k, hk, rfl, hrw, hb⟩ := hrel
    clear hrow hb1
    by_cases hlt : k < n
    · obtain ⟨b0, o0, rfl, hb0, hc0, g0, g0'⟩ := h0 k (by omega)
      obtain ⟨b1, o1, rfl, hb1', hc1, g1, g1'⟩ := h1 k (by omega)
      have hc0' : wr.cell? ⟨b0, o0 + k, none⟩ = some (.int .u8 (z0.getD k 0)) := (hb.cell hb0).trans hc0
      have hc1' : wr.cell? ⟨b1, o1 + k, none⟩ = some (.int .u8 (z1.getD k 0)) := (hb.cell hb1').trans hc1
      have hd0 := hrw.cell (i := k * 2) (by omega)
      have hd1 := hrw.cell (i := k * 2 + 1) (by omega)
      have hf0 := hrw.frozen (k * 2)
      have hf1 := hrw.frozen (k * 2 + 1)
      have hsz : szOf z0 k = z0.getD k 0 % 7 + 1 := rfl
      have hvl : W (vlOf z1 k) = floatOfInt .f64 (z1.getD k 0 % 10) := (float_nat _ (by omega)).symm
      have R : ((wr.setCell ⟨w.heap.size, k * 2, none⟩ (.int .i64 (z0.getD k 0 % 7 + 1))).setCell ⟨w.heap.size, k * 2 + 1, none⟩ (.float .f64 (floatOfInt .f64 (z1.getD k 0 % 10)))).rowIs w.heap.size 28 (n * 2) (partF (szOf z0) (vlOf z1) (k + 1)) := by
        rw [← hsz, ← hvl]
        exact ((hrw.set _ _).set _ _).congr fun j _ => part_step _ _ k j
      have hB : Below w.heap.size w ((wr.setCell ⟨w.heap.size, k * 2, none⟩ (.int .i64 (z0.getD k 0 % 7 + 1))).setCell ⟨w.heap.size, k * 2 + 1, none⟩ (.float .f64 (floatOfInt .f64 (z1.getD k 0 % 10)))) := (hb.setCell (Nat.le_refl _) _).setCell (Nat.le_refl _) _
      clear hsz hvl
      generalize z0.getD k 0 = x at *
      generalize z1.getD k 0 = y at *
      clear h0 h1 hc0 hc1 hrw hb
      have HR : Hid (_) := R
      have HB : Hid (_) := hB
      clear R hB
      go_wp2
      go_region
      all_goals
        go_wp2
        go_roundw
        case rel => exact ⟨k + 1, by omega, by go_num, World.rowIs.drew HR, Below.drew HB⟩
        case measure => simp [intOf]; omega
    · obtain rfl : k = n := by omega
      have R := hrw.congr fun j hj => part_end _ _ _ j hj
      clear hrw
      go_wp2
      go_ret
      exact ⟨rfl, R, hb⟩

/-! ### Sums -/
def sumZ (f : Nat → Int) : Nat → Int
  | 0 => 0
  | k + 1 => sumZ f k + f k
def sumN (f : Nat → Nat) : Nat → Nat
  | 0 => 0
  | k + 1 => sumN f k + f k
theorem sumZ_mono (f : Nat → Int) (h : ∀ i, 1 ≤ f i) (a b : Nat) (hab : a ≤ b) : sumZ f a ≤ sumZ f b := by
  induction b with
  | zero => have e : a = 0 := Nat.le_zero.1 hab
            subst e; exact Int.le_refl _
  | succ b ih =>
    by_cases e : a = b + 1
    · subst e; exact Int.le_refl _
    · have := ih (by omega); have := h b; simp only [sumZ]; omega
theorem sumZ_bd (f : Nat → Int) (h : ∀ i, 1 ≤ f i ∧ f i ≤ 7) (k : Nat) : 0 ≤ sumZ f k ∧ sumZ f k ≤ 7 * k := by
  induction k with
  | zero => simp [sumZ]
  | succ k ih => have := h k; simp only [sumZ]; omega
theorem sumN_bd (f : Nat → Nat) (h : ∀ i, f i ≤ 9) (k : Nat) : sumN f k ≤ 9 * k := by
  induction k with
  | zero => simp [sumN]
  | succ k ih => have := h k; simp only [sumN]; omega

theorem addF (w : World) (a b : Nat) (h : a + b < 2 ^ 53) : (binOp .add 26 (.float .f64 (W a)) (.float .f64 (W b))).run Yba.prog w = .ok (.float .f64 (W (a + b))) w :=
  run_float_arith w .add 26 .f64 _ _ _ (add_W a b h)

theorem item_at0 (sz : Nat → Int) (vl : Nat → Nat) (k : Nat) : itemF sz vl (k * 2) = .int .i64 (sz k) := by
  unfold itemF; rw [if_pos (by omega)]; congr 2; omega
theorem item_at1 (sz : Nat → Int) (vl : Nat → Nat) (k : Nat) : itemF sz vl (k * 2 + 1) = .float .f64 (W (vl k)) := by
  unfold itemF; rw [if_neg (by omega)]; congr 3; omega

set_option maxRecDepth 100000 in
set_option maxHeartbeats 1000000 in
theorem best_fit (g n : Nat) (cap : Int) (sz : Nat → Int) (vl : Nat → Nat) (w : World) (hrow : w.rowIs g 28 (n * 2) (itemF sz vl)) (hn : n ≤ 1024)
    (hsz : ∀ i, 1 ≤ sz i ∧ sz i ≤ 7) (hvl : ∀ i, vl i ≤ 9) (hfit : sumZ sz n ≤ cap) (hcap : cap ≤ 100000) :
    Calls Yba.prog 7 #[.slice (some ⟨g, 0, none⟩) n n, .int .i64 cap] w fun e w' => ∃ h, e = .returned (.tuple #[.float .f64 (W (sumN vl n)), .slice (some ⟨h, 0, none⟩) n n]) ∧ w'.rowIs h 3 n (fun j => .int .i64 (j : Int)) ∧ Below w.heap.size w w' := by
  have hg := hrow.lt
  go_enter Yba.func7, Yba.ntmps7
  go_wp2
  go_loopw [6, 7, 35] (fun r t i wr => ∃ k : Nat, k ≤ n ∧ i = .int .i64 k ∧ r = .int .i64 (cap - sumZ sz k) ∧ t = .float .f64 (W (sumN vl k)) ∧ Below w.heap.size w wr) (fun _ _ i _ => n - (intOf i).toNat)
  case atStart => exact ⟨0, Nat.zero_le _, rfl, by simp [sumZ], rfl, Below.refl _ _⟩
  case round =>
    obtain ⟨k, hk, rfl, rfl, rfl, hb⟩ := hrel
    have hB0 := sumZ_bd sz hsz k
    have hV0 := sumN_bd vl hvl k
    by_cases hlt : k < n
    · have hr : wr.rowIs g 28 (n * 2) (itemF sz vl) := hrow.of_block (hb.block g hg)
      have hd0 := hr.cell (i := k * 2) (by omega)
      have hd1 := hr.cell (i := k * 2 + 1) (by omega)
      rw [item_at0] at hd0
      rw [item_at1] at hd1
      have hle : sumZ sz (k + 1) ≤ sumZ sz n := sumZ_mono sz (fun i => (hsz i).1) _ _ (by omega)
      have hzz : sz k ≤ cap - sumZ sz k := by simp only [sumZ] at hle; omega
      have hs := hsz k
      have hv := hvl k
      have hadd := fun w => addF w (sumN vl k) (vl k) (by omega)
      have HZ : Hid (sumZ sz (k + 1) = sumZ sz k + sz k) := rfl
      have HV : Hid (sumN vl (k + 1) = sumN vl k + vl k) := rfl
      have hB := hb.alloc hb.size (.cells #[.int .i64 (sz k), .float .f64 (W (vl k))] 28)
      clear hle hr hb
      go_wp2
      go_roundw
      case rel => exact ⟨k + 1, by omega, by go_num, by rw [HZ.out]; go_num, by rw [HV.out], hB⟩
      case measure => simp [intOf]; omega
    · obtain rfl : k = n := by omega
      have hmk := run_make_row' (P := Yba.prog) 29 3 (.int .i64 0) 8 Yba.underlying29 info3 rfl .i64 .i64 k (by omega) (by omega)
      clear hrow
      have hr0 := (World.rowIs_made wr (.int .i64 0) k 3).congr (g := fun j => if j < 0 then .int .i64 (j : Int) else .int .i64 0) (fun j _ => by simp)
      have hsz0 := hb.size
      have hb0 := hb.alloc hsz0 (.cells (madeCells #[.int .i64 0] k) 3)
      go_wp2
      clear hmk
      generalize wr.heap.size = H at *
      go_loopw [59, 11] (fun i _ w2 => ∃ j : Nat, j ≤ k ∧ i = .int .i64 j ∧ w2.rowIs H 3 k (fun q => if q < j then .int .i64 (q : Int) else .int .i64 0) ∧ Below w.heap.size w w2) (fun i _ _ => k - (intOf i).toNat)
      case atStart => exact ⟨0, Nat.zero_le _, rfl, hr0, hb0⟩
      case round =>
        obtain ⟨j, hj, rfl, hr, hb2⟩ := hrel
        clear hr0 hb0 hb
        by_cases hlt2 : j < k
        · have hc := hr.cell hlt2
          simp only [Nat.lt_irrefl, if_false] at hc
          have hf := hr.frozen j
          have R := (hr.set j (.int .i64 (j : Int))).congr (g := fun q => if q < j + 1 then .int .i64 (q : Int) else .int .i64 0) (fun q _ => by
            by_cases e : q = j
            · subst e; simp
            · rw [if_neg e]
              by_cases e2 : q < j
              · rw [if_pos e2, if_pos (show q < j + 1 by omega)]
              · rw [if_neg e2, if_neg (show ¬ q < j + 1 by omega)])
          have hB := hb2.setCell (p := ⟨H, j, none⟩) hsz0 (.int .i64 (j : Int))
          clear hr hb2
          go_wp2
          go_roundw
          case rel => exact ⟨j + 1, by omega, by go_num, R, hB⟩
          case measure => simp [intOf]; omega
        · obtain rfl : j = k := by omega
          have R := hr.congr (g := fun q => .int .i64 (q : Int)) (fun q hq => by rw [if_pos hq])
          clear hr
          go_wp2
          go_ret2
          exact ⟨_, rfl, R, hb2⟩
end Go.Proofs.Ybulkbnbu.Kn
