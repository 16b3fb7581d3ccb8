/-
  What the walks of this seat say of memory: the search's struct (34 cells), its two matrices of words, its rows, its trail. And the small callees: neg, holds, fails, depth.
-/
import Derived.Test.YbulkbnbgDoorRows
import Derived.WalkKit
import Derived.ProofKit
import Derived.OpenShut
import Derived.Handy
import Derived.Below
import Derived.Carry
import Derived.Deep.OwnRows
import Derived.Deep.QuietTactic
import Derived.BigQuiet
import Derived.RegionTactic
import Derived.BigRegion
import Derived.WalkSmall
import Derived.Laws.BitsAllLaws
import Derived.Deep.AppendLies
import Derived.Deep.DeepCutAuto
import Derived.Deep.RegionHeld3
namespace Go.Proofs.YbulkbnbgDoor.Pr
open Go.ChangeShapes Go.WideShapes Go.ChangeAt Go.RowKit

/-! ### Frames -/
/-- All blocks that stood, but for those that D names, are as they were. -/
structure Keeps (D : Nat → Prop) (w w' : World) : Prop where
  os : w'.os = w.os
  tape : w'.tape = w.tape
  output : w'.output = w.output
  size : w.heap.size ≤ w'.heap.size
  block : ∀ k, k < w.heap.size → ¬ D k → w'.heap[k]? = w.heap[k]?

namespace Keeps
variable {D E : Nat → Prop} {w w' w'' : World}
theorem refl (D : Nat → Prop) (w : World) : Keeps D w w := ⟨rfl, rfl, rfl, Nat.le_refl _, fun _ _ _ => rfl⟩
theorem mono (h : Keeps D w w') (hDE : ∀ k, k < w.heap.size → D k → E k) : Keeps E w w' :=
  ⟨h.os, h.tape, h.output, h.size, fun k hk hE => h.block k hk fun hd => hE (hDE k hk hd)⟩
theorem trans (h : Keeps D w w') (k : Keeps E w' w'') (hE : ∀ j, j < w.heap.size → E j → D j) : Keeps D w w'' :=
  ⟨k.os.trans h.os, k.tape.trans h.tape, k.output.trans h.output, Nat.le_trans h.size k.size,
    fun j hj hD => (k.block j (Nat.lt_of_lt_of_le hj h.size) fun he => hD (hE j hj he)).trans (h.block j hj hD)⟩
theorem drewN (h : Keeps D w w') (n : Nat) : Keeps D w (w'.drewN n) := ⟨h.os, h.tape, h.output, h.size, h.block⟩
theorem drew (h : Keeps D w w') : Keeps D w w'.drew := ⟨h.os, h.tape, h.output, h.size, h.block⟩
theorem alloc (h : Keeps D w w') (o : Obj) : Keeps D w (w'.alloc o) :=
  ⟨h.os, h.tape, h.output, by have := h.size; simp; omega, fun k hk hd => (Below.heap_alloc _ _ _ (by have := h.size; omega)).trans (h.block k hk hd)⟩
theorem setCell (h : Keeps D w w') {a : Addr} (ha : a.block < w.heap.size → D a.block) (v : Value) : Keeps D w (w'.setCell a v) :=
  ⟨h.os, h.tape, h.output, by have := h.size; simp [World.setCell]; omega, fun k hk hd => (Below.heap_setCell _ _ _ _ (fun e => hd (by subst e; exact ha hk))).trans (h.block k hk hd)⟩
theorem grown (h : Keeps D w w') {row : Option Nat} (hg : w'.grownBy w'' row) (hr : ∀ k, row = some k → k < w.heap.size → D k) : Keeps D w w'' :=
  ⟨hg.os.trans h.os, hg.tape.trans h.tape, hg.output.trans h.output, Nat.le_trans h.size hg.size,
    fun k hk hd => (hg.block k (by have := h.size; omega) (fun e => hd (hr k e.symm hk))).trans (h.block k hk hd)⟩
/-- What has turned lies from B on. -/
theorem below (h : Keeps D w w') {B : Nat} (hB : ∀ k, D k → B ≤ k) (hs : B ≤ w.heap.size) : Below B w w' :=
  ⟨h.os, h.tape, h.output, h.size, fun k hk => h.block k (by omega) fun hd => by have := hB k hd; omega⟩
end Keeps

theorem drewN_add (w : World) (a b : Nat) : (w.drewN a).drewN b = w.drewN (a + b) := by
  simp [World.drewN, Nat.add_assoc]

/-! ### The search -/
/-- The fixed part: the node count, the words of a matrix's row, the blocks. -/
structure Cfg where
  n : Nat
  words : Nat
  P : Nat
  Bf : Nat
  Af : Nat
  Lv : Nat
  At : Nat
  Rs : Nat
  Ws : Nat

structure Cfg.Ok (c : Cfg) : Prop where
  n1 : 1 ≤ c.n
  n80 : c.n ≤ 80
  w1 : 1 ≤ c.words
  w2 : c.words ≤ 2
  fits : c.n ≤ c.words * 64
  ne : [c.P, c.Bf, c.Af, c.Lv, c.At, c.Rs, c.Ws].Nodup

/-- The part that turns. -/
structure PS where
  Mb : Nat → Nat
  Ma : Nat → Nat
  tr : List Nat
  tv : Value
  cf : Value
  head : Nat
  work : Int
  broken : Bool
  misc : Nat → Value
  atF : Nat → Value
  rsF : Nat → Value

def pcell (c : Cfg) (s : PS) (j : Nat) : Value :=
  if j = 0 then .int .i64 (c.n : Int)
  else if j = 1 then .int .i64 (c.words : Int)
  else if j = 3 then .slice (some ⟨c.Bf, 0, none⟩) (c.n * c.words) (c.n * c.words)
  else if j = 4 then .slice (some ⟨c.Af, 0, none⟩) (c.n * c.words) (c.n * c.words)
  else if j = 5 then .slice (some ⟨c.Lv, 0, none⟩) (c.n * c.n) (c.n * c.n)
  else if j = 6 then .slice (some ⟨c.At, 0, none⟩) (c.n * c.n) (c.n * c.n)
  else if j = 7 then .slice (some ⟨c.Rs, 0, none⟩) (c.n * c.n) (c.n * c.n)
  else if j = 8 then s.tv
  else if j = 9 then .slice none 0 0
  else if j = 10 then .int .i64 (s.head : Int)
  else if j = 14 then .slice (some ⟨c.Ws, 0, none⟩) (c.n * c.n) (c.n * c.n)
  else if j = 18 then s.cf
  else if j = 31 then .int .i64 s.work
  else if j = 33 then .bool s.broken
  else s.misc j

def own (c : Cfg) (tb : Option Nat) (k : Nat) : Prop :=
  k = c.P ∨ k = c.Bf ∨ k = c.Af ∨ k = c.Lv ∨ k = c.At ∨ k = c.Rs ∨ k = c.Ws ∨ tb = some k

def trailCells (tr : List Nat) : List Value := tr.map fun (l : Nat) => Value.int .i32 (l : Int)

/-- THE SEARCH IN MEMORY, while no conflict has been met. -/
structure St (c : Cfg) (s : PS) (w : World) : Prop where
  ok : c.Ok
  p : w.rowIs c.P 51 34 (pcell c s)
  b : w.rowIs c.Bf 58 (c.n * c.words) (fun j => .int .u64 (s.Mb j : Int))
  a : w.rowIs c.Af 58 (c.n * c.words) (fun j => .int .u64 (s.Ma j : Int))
  l : w.rowIs c.Lv 21 (c.n * c.n) (fun _ => .int .i32 0)
  t : w.rowIs c.At 21 (c.n * c.n) s.atF
  r : w.rowIs c.Rs 21 (c.n * c.n) s.rsF
  ws : w.rowIs c.Ws 38 (c.n * c.n) (fun _ => .slice none 0 0)
  mb : ∀ j, s.Mb j < 18446744073709551616
  ma : ∀ j, s.Ma j < 18446744073709551616
  tr : w.ownsRow 0 21 1 s.tv s.tr.length (trailCells s.tr)
  cf : s.cf = .slice none 0 0
  ne : ∀ g, s.tv.ownBlock = some g → g ≠ c.P ∧ g ≠ c.Bf ∧ g ≠ c.Af ∧ g ≠ c.Lv ∧ g ≠ c.At ∧ g ≠ c.Rs ∧ g ≠ c.Ws

theorem ownsRow_of_block {w w' : World} {base e size n : Nat} {v : Value} {xs : List Value} (h : w.ownsRow base e size v n xs)
    (hb : ∀ g, v.ownBlock = some g → w'.heap[g]? = w.heap[g]?) : w'.ownsRow base e size v n xs := by
  refine ⟨h.1, ?_⟩
  rcases h.2 with h2 | ⟨g, cap, cur, hv, hg, hh, r⟩
  · exact Or.inl h2
  · exact Or.inr ⟨g, cap, cur, hv, hg, (hb g (by rw [hv]; rfl)).trans hh, r⟩

theorem ownsRow_lt {w : World} {base e size n : Nat} {v : Value} {xs : List Value} (h : w.ownsRow base e size v n xs) (g : Nat) (hg : v.ownBlock = some g) : g < w.heap.size := by
  rcases h.2 with ⟨hv, _⟩ | ⟨g', cap, cur, hv, _, hh, _⟩
  · rw [hv] at hg; cases hg
  · rw [hv] at hg
    obtain rfl : g' = g := by simpa [Value.ownBlock] using hg
    obtain ⟨hlt, _⟩ := Array.getElem?_eq_some_iff.1 hh
    exact hlt

/-- The search stands as it stood where its own blocks do. -/
theorem St.of_block {c : Cfg} {s : PS} {w w' : World} (h : St c s w) (hb : ∀ k, own c s.tv.ownBlock k → w'.heap[k]? = w.heap[k]?) : St c s w' :=
  ⟨h.ok, h.p.of_block (hb _ (by simp [own])), h.b.of_block (hb _ (by simp [own])), h.a.of_block (hb _ (by simp [own])), h.l.of_block (hb _ (by simp [own])),
    h.t.of_block (hb _ (by simp [own])), h.r.of_block (hb _ (by simp [own])), h.ws.of_block (hb _ (by simp [own])), h.mb, h.ma,
    ownsRow_of_block h.tr (fun g hg => hb g (by simp [own, hg])), h.cf, h.ne⟩

theorem St.own_lt {c : Cfg} {s : PS} {w : World} (h : St c s w) (k : Nat) (hk : own c s.tv.ownBlock k) : k < w.heap.size := by
  rcases hk with rfl | rfl | rfl | rfl | rfl | rfl | rfl | hk
  · exact h.p.lt
  · exact h.b.lt
  · exact h.a.lt
  · exact h.l.lt
  · exact h.t.lt
  · exact h.r.lt
  · exact h.ws.lt
  · exact ownsRow_lt h.tr k hk

theorem St.alloc {c : Cfg} {s : PS} {w : World} (h : St c s w) (o : Obj) : St c s (w.alloc o) :=
  h.of_block fun k hk => Below.heap_alloc _ _ _ (h.own_lt k hk)
theorem St.drewN {c : Cfg} {s : PS} {w : World} (h : St c s w) (n : Nat) : St c s (w.drewN n) := h.of_block fun _ _ => rfl
theorem St.drew {c : Cfg} {s : PS} {w : World} (h : St c s w) : St c s w.drew := h.of_block fun _ _ => rfl

/-- Kept by whoever touches other blocks alone. -/
theorem St.keeps {c : Cfg} {s : PS} {w w' : World} (h : St c s w) {D : Nat → Prop} (hk : Keeps D w w') (hD : ∀ k, own c s.tv.ownBlock k → ¬ D k) : St c s w' :=
  h.of_block fun k ho => hk.block k (h.own_lt k ho) (hD k ho)

/-! ### Bits -/
theorem wrap_pow (k : Nat) (hk : k < 64) : IntKind.u64.wrap ((2 : Int) ^ k) = ((2 ^ k : Nat) : Int) := by
  have h : 2 ^ k < 2 ^ 64 := Nat.pow_lt_pow_right (by omega) hk
  have h2 : (2 : Int) ^ k = ((2 ^ k : Nat) : Int) := by norm_cast
  have e : (2 : Nat) ^ 64 = 18446744073709551616 := by decide
  rw [h2, IntKind.wrap_u64]
  rw [e] at h
  generalize 2 ^ k = q at *
  omega

theorem pow_lt64 (k : Nat) (hk : k < 64) : 2 ^ k < 18446744073709551616 := by
  have h : 2 ^ k < 2 ^ 64 := Nat.pow_lt_pow_right (by omega) hk
  have : (2 : Nat) ^ 64 = 18446744073709551616 := by decide
  omega

theorem and_pow (m k : Nat) : m &&& 2 ^ k = if m.testBit k then 2 ^ k else 0 := by
  apply Nat.eq_of_testBit_eq
  intro i
  rw [Nat.testBit_and, Nat.testBit_two_pow]
  by_cases h : k = i
  · subst h; cases hb : m.testBit k <;> simp
  · cases hb : m.testBit k <;> simp [h]

theorem bit_test (m k : Nat) (hm : m < 18446744073709551616) (hk : k < 64) : (bits .and .u64 (m : Int) (IntKind.u64.wrap ((2 : Int) ^ k)) != 0) = m.testBit k := by
  rw [wrap_pow k hk, u64_and_nat m (2 ^ k) hm (pow_lt64 k hk), and_pow]
  cases hb : m.testBit k
  · simp
  · have h : 2 ^ k ≠ 0 := Nat.ne_of_gt (Nat.two_pow_pos k)
    rw [if_pos rfl]
    generalize 2 ^ k = q at *
    simp
    exact h

theorem bit_or (m k : Nat) (hm : m < 18446744073709551616) (hk : k < 64) : bits .or .u64 (m : Int) (IntKind.u64.wrap ((2 : Int) ^ k)) = ((m ||| 2 ^ k : Nat) : Int) := by
  rw [wrap_pow k hk, u64_or_nat m (2 ^ k) hm (pow_lt64 k hk)]

theorem or_lt (m k : Nat) (hm : m < 18446744073709551616) (hk : k < 64) : m ||| 2 ^ k < 18446744073709551616 := by
  have e : (2 : Nat) ^ 64 = 18446744073709551616 := by decide
  rw [← e] at hm ⊢
  exact Nat.or_lt_two_pow hm (Nat.pow_lt_pow_right (by omega) hk)

theorem or_test (m k i : Nat) : (m ||| 2 ^ k).testBit i = (m.testBit i || decide (i = k)) := by
  rw [Nat.testBit_or, Nat.testBit_two_pow]
  by_cases h : i = k
  · simp [h]
  · simp [h, Ne.symm h]

/-! ### Numbers of a literal -/
theorem lit_div {n a b : Nat} {L : Int} (hL : L = (a : Int) * (n : Int) + (b : Int)) (hb : b < n) : L / (n : Int) = a := by
  rw [hL]; norm_cast
  rw [Nat.mul_comm, Nat.mul_add_div (by omega), Nat.div_eq_of_lt hb]; omega
theorem lit_mod {n a b : Nat} {L : Int} (hL : L = (a : Int) * (n : Int) + (b : Int)) (hb : b < n) : L % (n : Int) = b := by
  rw [hL]; norm_cast
  rw [Nat.mul_comm, Nat.mul_add_mod, Nat.mod_eq_of_lt hb]
theorem lit_nat {n a b : Nat} {L : Int} (hL : L = (a : Int) * (n : Int) + (b : Int)) : L = ((a * n + b : Nat) : Int) := by
  rw [hL]; push_cast; rfl
theorem lit_lt {n a b : Nat} (ha : a < n) (hb : b < n) : a * n + b < n * n := by
  have := Nat.mul_le_mul_right n (show a + 1 ≤ n by omega)
  rw [Nat.succ_mul] at this
  omega
theorem nn_le {n : Nat} (h : n ≤ 80) : n * n ≤ 6400 := Nat.mul_le_mul h h
theorem lit_bd {n a b : Nat} {L : Int} (hL : L = (a : Int) * (n : Int) + (b : Int)) (ha : a < n) (hb : b < n) (h : n ≤ 80) : 0 ≤ L ∧ L < 6400 := by
  have h1 := lit_lt ha hb
  have h2 := nn_le h
  rw [lit_nat hL]
  omega

/-- The place of a bit in a matrix of words. -/
def at_ (c : Cfg) (a b : Nat) : Nat := a * c.words + b / 64

theorem at_lt {c : Cfg} (hc : c.Ok) {a b : Nat} (ha : a < c.n) (hb : b < c.n) : at_ c a b < c.n * c.words := by
  have := Nat.mul_le_mul_right c.words (show a + 1 ≤ c.n by omega)
  rw [Nat.succ_mul] at this
  have := hc.fits
  unfold at_
  omega
theorem nw_le {c : Cfg} (hc : c.Ok) : c.n * c.words ≤ 160 := by
  have := Nat.mul_le_mul hc.n80 hc.w2; omega
theorem at_bd {c : Cfg} (hc : c.Ok) {a b : Nat} (ha : a < c.n) (hb : b < c.n) :
    (0 : Int) ≤ (a : Int) * (c.words : Int) ∧ (a : Int) * (c.words : Int) + (b : Int) / 64 < ((c.n * c.words : Nat) : Int) ∧ (a : Int) * (c.words : Int) ≤ 160 := by
  have h1 := at_lt hc ha hb
  have h2 := nw_le hc
  unfold at_ at h1
  refine ⟨by exact_mod_cast Nat.zero_le _, by exact_mod_cast h1, ?_⟩
  have : a * c.words ≤ 160 := by omega
  exact_mod_cast this

def R (c : Cfg) (M : Nat → Nat) (a b : Nat) : Bool := (M (at_ c a b)).testBit (b % 64)

/-! ### The cells of the struct -/
theorem pc0 {c : Cfg} {s : PS} {w : World} (hP : w.rowIs c.P 51 34 (pcell c s)) : w.cell? ⟨c.P, 0, none⟩ = some (.int .i64 (c.n : Int)) := hP.cell (i := 0) (by omega)
theorem pc1 {c : Cfg} {s : PS} {w : World} (hP : w.rowIs c.P 51 34 (pcell c s)) : w.cell? ⟨c.P, 1, none⟩ = some (.int .i64 (c.words : Int)) := hP.cell (i := 1) (by omega)
theorem pc3 {c : Cfg} {s : PS} {w : World} (hP : w.rowIs c.P 51 34 (pcell c s)) : w.cell? ⟨c.P, 3, none⟩ = some (.slice (some ⟨c.Bf, 0, none⟩) (c.n * c.words) (c.n * c.words)) := hP.cell (i := 3) (by omega)
theorem pc4 {c : Cfg} {s : PS} {w : World} (hP : w.rowIs c.P 51 34 (pcell c s)) : w.cell? ⟨c.P, 4, none⟩ = some (.slice (some ⟨c.Af, 0, none⟩) (c.n * c.words) (c.n * c.words)) := hP.cell (i := 4) (by omega)
theorem pc5 {c : Cfg} {s : PS} {w : World} (hP : w.rowIs c.P 51 34 (pcell c s)) : w.cell? ⟨c.P, 5, none⟩ = some (.slice (some ⟨c.Lv, 0, none⟩) (c.n * c.n) (c.n * c.n)) := hP.cell (i := 5) (by omega)
theorem pc6 {c : Cfg} {s : PS} {w : World} (hP : w.rowIs c.P 51 34 (pcell c s)) : w.cell? ⟨c.P, 6, none⟩ = some (.slice (some ⟨c.At, 0, none⟩) (c.n * c.n) (c.n * c.n)) := hP.cell (i := 6) (by omega)
theorem pc7 {c : Cfg} {s : PS} {w : World} (hP : w.rowIs c.P 51 34 (pcell c s)) : w.cell? ⟨c.P, 7, none⟩ = some (.slice (some ⟨c.Rs, 0, none⟩) (c.n * c.n) (c.n * c.n)) := hP.cell (i := 7) (by omega)
theorem pc8 {c : Cfg} {s : PS} {w : World} (hP : w.rowIs c.P 51 34 (pcell c s)) : w.cell? ⟨c.P, 8, none⟩ = some s.tv := hP.cell (i := 8) (by omega)
theorem pc9 {c : Cfg} {s : PS} {w : World} (hP : w.rowIs c.P 51 34 (pcell c s)) : w.cell? ⟨c.P, 9, none⟩ = some (.slice none 0 0) := hP.cell (i := 9) (by omega)
theorem pc10 {c : Cfg} {s : PS} {w : World} (hP : w.rowIs c.P 51 34 (pcell c s)) : w.cell? ⟨c.P, 10, none⟩ = some (.int .i64 (s.head : Int)) := hP.cell (i := 10) (by omega)
theorem pc14 {c : Cfg} {s : PS} {w : World} (hP : w.rowIs c.P 51 34 (pcell c s)) : w.cell? ⟨c.P, 14, none⟩ = some (.slice (some ⟨c.Ws, 0, none⟩) (c.n * c.n) (c.n * c.n)) := hP.cell (i := 14) (by omega)
theorem pc18 {c : Cfg} {s : PS} {w : World} (hP : w.rowIs c.P 51 34 (pcell c s)) : w.cell? ⟨c.P, 18, none⟩ = some s.cf := hP.cell (i := 18) (by omega)
theorem pc31 {c : Cfg} {s : PS} {w : World} (hP : w.rowIs c.P 51 34 (pcell c s)) : w.cell? ⟨c.P, 31, none⟩ = some (.int .i64 s.work) := hP.cell (i := 31) (by omega)
theorem pc33 {c : Cfg} {s : PS} {w : World} (hP : w.rowIs c.P 51 34 (pcell c s)) : w.cell? ⟨c.P, 33, none⟩ = some (.bool s.broken) := hP.cell (i := 33) (by omega)

/-! ### The small callees -/
theorem depth_any (c : Cfg) (s : PS) (w : World) (hP : w.rowIs c.P 51 34 (pcell c s)) :
    Calls Ybad.prog 13 #[.pointer (some ⟨c.P, 0, none⟩)] w fun e w' => e = .returned (.int .i64 0) ∧ w' = w := by
  have h9 := pc9 hP
  clear hP
  go_enter Ybad.func13, Ybad.ntmps13
  go_wp2
  go_ret
  exact ⟨rfl, rfl⟩

theorem neg_any (c : Cfg) (hc : c.Ok) (s : PS) (w : World) (hP : w.rowIs c.P 51 34 (pcell c s)) (L : Int) (a b : Nat) (hL : L = (a : Int) * (c.n : Int) + (b : Int)) (ha : a < c.n) (hb : b < c.n) :
    Calls Ybad.prog 21 #[.pointer (some ⟨c.P, 0, none⟩), .int .i32 L] w fun e w' => e = .returned (.int .i32 ((b : Int) * (c.n : Int) + (a : Int))) ∧ ∃ k, w' = w.drewN k := by
  obtain ⟨hn1, hn2, hw1, hw2, hfit, _⟩ := hc
  have h0 := pc0 hP
  have e1 := lit_div hL hb
  have e2 := lit_mod hL hb
  have hbd := lit_bd hL ha hb hn2
  have hbd2 := lit_bd (L := (b : Int) * (c.n : Int) + (a : Int)) rfl hb ha hn2
  have hz0 : (0 : Int) ≤ (b : Int) * (c.n : Int) := by exact_mod_cast Nat.zero_le _
  clear hP hL
  go_enter Ybad.func21, Ybad.ntmps21
  go_wp2
  go_quiet (fail)
  go_wp2
  go_ret
  exact ⟨rfl, _, rfl⟩

set_option maxHeartbeats 400000 in
theorem holds_any (c : Cfg) (hc : c.Ok) (s : PS) (w : World) (hP : w.rowIs c.P 51 34 (pcell c s)) (hB : w.rowIs c.Bf 58 (c.n * c.words) (fun j => .int .u64 (s.Mb j : Int))) (hM : ∀ j, s.Mb j < 18446744073709551616)
    (L : Int) (a b : Nat) (hL : L = (a : Int) * (c.n : Int) + (b : Int)) (ha : a < c.n) (hb : b < c.n) :
    Calls Ybad.prog 19 #[.pointer (some ⟨c.P, 0, none⟩), .int .i32 L] w fun e w' => e = .returned (.bool (R c s.Mb a b)) ∧ ∃ k, w' = w.drewN k := by
  have hi := at_lt hc ha hb
  have hnw := nw_le hc
  have hz := at_bd hc ha hb
  obtain ⟨hn1, hn2, hw1, hw2, hfit, _⟩ := hc
  have h0 := pc0 hP
  have h1 := pc1 hP
  have h3 := pc3 hP
  have hcell := hB.cell hi
  have e1 := lit_div hL hb
  have e2 := lit_mod hL hb
  have hbd := lit_bd hL ha hb hn2
  have hR := bit_test (s.Mb (at_ c a b)) (b % 64) (hM _) (Nat.mod_lt _ (by omega))
  unfold R
  generalize hmw : s.Mb (at_ c a b) = mw at *
  unfold at_ at hcell hi
  obtain ⟨hz1, hz2, hz3⟩ := hz
  have HR : Hid (_) := hR
  clear hP hB hmw hM hR hL
  go_enter Ybad.func19, Ybad.ntmps19
  go_wp2
  go_quiet (fail)
  go_wp2
  go_quiet (fail)
  go_wp2
  go_ret
  exact ⟨congrArg (fun x => Ending.returned (Value.bool x)) HR.out, _, drewN_add _ _ _⟩

theorem fails_any (c : Cfg) (hc : c.Ok) (s : PS) (w : World) (hP : w.rowIs c.P 51 34 (pcell c s)) (hB : w.rowIs c.Bf 58 (c.n * c.words) (fun j => .int .u64 (s.Mb j : Int))) (hM : ∀ j, s.Mb j < 18446744073709551616)
    (L : Int) (a b : Nat) (hL : L = (a : Int) * (c.n : Int) + (b : Int)) (ha : a < c.n) (hb : b < c.n) :
    Calls Ybad.prog 20 #[.pointer (some ⟨c.P, 0, none⟩), .int .i32 L] w fun e w' => e = .returned (.bool (R c s.Mb b a)) ∧ ∃ k, w' = w.drewN k := by
  have HL : Hid (_) := hL
  clear hL
  go_enter Ybad.func20, Ybad.ntmps20
  go_wp2_with fail
  refine (neg_any c hc s _ hP L a b HL.out ha hb).mono ?_
  rintro e w1 ⟨rfl, k, rfl⟩
  go_wp2_with fail
  refine (holds_any c hc s (w.drewN k) hP hB hM _ b a rfl hb ha).mono ?_
  rintro e w2 ⟨rfl, k2, rfl⟩
  go_wp2
  go_ret
  exact ⟨rfl, _, rfl⟩
end Go.Proofs.YbulkbnbgDoor.Pr
