/-
  The law's input in memory; its first two loops.
-/
import Derived.Test.YbulkbndkDoorMap
namespace Go.Proofs.YbulkbndkDoor.Pr
set_option linter.unusedSimpArgs false
set_option linter.unusedVariables false
open Go.ChangeShapes Go.WideShapes Go.ChangeAt Go.RowKit

/-- The code of a block. -/
def blk (n : Nat) : Code → Option Code
  | .block i c => if i = n then some c else blk n c
  | .seq a b => match blk n a with | some c => some c | none => blk n b
  | .cond _ a b => match blk n a with | some c => some c | none => blk n b
  | .loop c => blk n c
  | .scope c => blk n c
  | _ => none

def Src1 (B : Nat) (w : World) (a : Option Addr) (xs : List Nat) : Prop := ∀ (i x : Nat), xs[i]? = some x → ∃ b off, a = some ⟨b, off, none⟩ ∧ b < B ∧ w.cell? ⟨b, off + i, none⟩ = some (.int .u8 (x : Int))
theorem Src1.fr {B : Nat} {w w' : World} {a : Option Addr} {xs : List Nat} {T : List TypeId} (h : Src1 B w a xs) (hF : Fr B T w w') : Src1 B w' a xs := fun i x hx => by
  obtain ⟨b, off, h1, h2, h3⟩ := h i x hx
  exact ⟨b, off, h1, h2, hF.cellLow h2 h3⟩

structure Inp (B n : Nat) (SV : Nat → Sv) (sa : Option Addr) (ma : Nat → Option Addr) (mc : Nat → Nat) (w : World) : Prop where
  srv : ∀ i, i < n → ∃ sb so, sa = some ⟨sb, so, none⟩ ∧ sb < B ∧ w.cell? ⟨sb, so + i * 7, none⟩ = some (.int .u32 ((SV i).rc : Int)) ∧ w.cell? ⟨sb, so + i * 7 + 1, none⟩ = some (.int .u8 ((SV i).st : Int)) ∧ w.cell? ⟨sb, so + i * 7 + 2, none⟩ = some (.slice (ma i) (SV i).ms.length (mc i)) ∧
    ∀ j, j < 4 → w.cell? ⟨sb, so + i * 7 + 3 + j, none⟩ = some (.int .u8 ((SV i).ss j : Int))
  mem : ∀ i, i < n → Src1 B w (ma i) (SV i).ms
theorem Inp.fr {B n : Nat} {SV : Nat → Sv} {sa : Option Addr} {ma : Nat → Option Addr} {mc : Nat → Nat} {w w' : World} {T : List TypeId} (h : Inp B n SV sa ma mc w) (hF : Fr B T w w') : Inp B n SV sa ma mc w' :=
  ⟨fun i hi => by
    obtain ⟨sb, so, h1, h2, h3, h4, h5, h6⟩ := h.srv i hi
    exact ⟨sb, so, h1, h2, hF.cellLow h2 h3, hF.cellLow h2 h4, hF.cellLow h2 h5, fun j hj => hF.cellLow h2 (h6 j hj)⟩, fun i hi => (h.mem i hi).fr hF⟩

def FA (sa : Option Addr) (n sc : Nat) (vb vc : Value) (i : Nat) (f : Act) : Prop := f.tmps.size = 368 ∧ f.defers = [] ∧ f.tmps[0]?.getD undef = .slice sa n sc ∧ f.tmps[1]?.getD undef = vb ∧ f.tmps[2]?.getD undef = vc ∧ f.tmps[7]?.getD undef = .int .i64 (i : Int)

def I1 (sa : Option Addr) (n sc : Nat) (vb vc : Value) (SV : Nat → Sv) (w0 : World) (m : Nat) (f : Act) (w : World) : Prop :=
  ∃ i, i ≤ n ∧ m = n - i ∧ FA sa n sc vb vc i f ∧ (∀ k, k < i → (SV k).ms.length ≤ 256) ∧ w = w0

set_option maxRecDepth 100000 in
set_option maxHeartbeats 4000000 in
theorem loop1 {Q : Exit → Act → World → Prop} (B n sc : Nat) (sa : Option Addr) (vb vc : Value) (SV : Nat → Sv) (ma : Nat → Option Addr) (mc : Nat → Nat) (hn : n ≤ 64) (w : World) (hI : Inp B n SV sa ma mc w) (f : Act) (hF : FA sa n sc vb vc 0 f)
    (hend : ∀ f', FA sa n sc vb vc n f' → (∀ k, k < n → (SV k).ms.length ≤ 256) → Q (.exit 0) f' w)
    (hret : ∀ f', f'.tmps.size = 368 → f'.defers = [] → f'.tmps[6]?.getD undef = .bool true → Q .ret f' w) :
    Code.wp Ybad.prog ((Ybad.f3.body.bind (blk 0)).getD .skip) Q f w := by
  conv => arg 2; whnf
  refine wp_loop_ghost (I1 sa n sc vb vc SV w) n ⟨0, Nat.zero_le _, rfl, hF, fun k hk => by omega, rfl⟩ ?_
  rintro m f w' ⟨i, hi, rfl, ⟨hsz, hds, e0, e1, e2, e7⟩, hle, rfl⟩
  obtain ⟨g, hg⟩ : ∃ g : Nat → Value, ∀ t, f.tmps[t]?.getD undef = g t := ⟨_, fun _ => rfl⟩
  rw [hg] at e0 e1 e2 e7
  rw [lit368 f g hg hsz hds, e0, e1, e2, e7]
  clear hg hsz hds e0 e1 e2 e7
  have HE : Hid (∀ f', FA sa n sc vb vc n f' → (∀ k, k < n → (SV k).ms.length ≤ 256) → Q (.exit 0) f' w') := hend
  have HR : Hid (∀ f', f'.tmps.size = 368 → f'.defers = [] → f'.tmps[6]?.getD undef = .bool true → Q .ret f' w') := hret
  have HLe : Hid (∀ k, k < i → (SV k).ms.length ≤ 256) := hle
  clear hend hret hle
  by_cases hlt : i < n
  · have hI0 : (0 : Int) ≤ (i : Int) := by omega
    have hI1 : (i : Int) < (n : Int) := by omega
    obtain ⟨sb, so, rfl, _, _, _, c2, _⟩ := hI.srv i hlt
    have HI : Hid (Inp B n SV (some ⟨sb, so, none⟩) ma mc w') := hI
    clear hI
    by_cases hbig : 256 < (SV i).ms.length
    · have hJ : (256 : Int) < ((SV i).ms.length : Int) := by omega
      go_wp2_with fail
      exact HR.out _ rfl rfl rfl
    · have hJ : ¬ (256 : Int) < ((SV i).ms.length : Int) := by omega
      go_wp2_with fail
      refine ⟨n - (i + 1), by omega, i + 1, by omega, rfl, ⟨rfl, rfl, rfl, rfl, rfl, by first | rfl | go_num⟩, fun k hk => ?_, rfl⟩
      by_cases e : k = i
      · subst e; omega
      · exact HLe.out k (by omega)
  · obtain rfl : i = n := by omega
    have hI1 : ¬ (i : Int) < (i : Int) := by omega
    clear hI
    go_wp2_with fail
    exact HE.out _ ⟨rfl, rfl, rfl, rfl, rfl, rfl⟩ HLe.out

def FB (va vb vc : Value) (Bb Pa Qa j : Nat) (f : Act) : Prop := f.tmps.size = 368 ∧ f.defers = [] ∧ f.tmps[0]?.getD undef = va ∧ f.tmps[1]?.getD undef = vb ∧ f.tmps[2]?.getD undef = vc ∧ f.tmps[8]?.getD undef = .pointer (some ⟨Bb, 0, none⟩) ∧ f.tmps[9]?.getD undef = .pointer (some ⟨Pa, 0, none⟩) ∧ f.tmps[10]?.getD undef = .pointer (some ⟨Qa, 0, none⟩) ∧ f.tmps[11]?.getD undef = .int .i64 (j : Int)
def nilp (_ : Nat) : Value := .pointer none
/-- The four ASPs and associations, while they are made. -/
structure Mk4 (B j : Nat) (w : World) : Prop where
  size : w.heap.size = B + 3 + 2 * j
  box : w.rowIs B 31 1 (fun _ => .slice none 0 0)
  pa : w.rowIs (B + 1) 33 4 (fun i => if i < j then ptr (aspb B i) else .pointer none)
  qa : w.rowIs (B + 2) 35 4 (fun i => if i < j then ptr (asb B i) else .pointer none)
  asc : ∀ i, i < j → ∃ f, w.rowIs (asb B i) 63 21 f ∧ f 16 = ptr B ∧ f 17 = .slice none 0 0
  asp : ∀ i, i < j → ∃ f, w.rowIs (aspb B i) 68 5 f ∧ f 4 = ptr (asb B i)

def o1a (B : Nat) : Array Value := #[.pointer none, .nilIface, .int .u64 0, .chan none, .int .i32 0, .chan none, .int .i64 0, .chan none, .nilFunc, .int .u32 0, .int .i32 0, .int .u32 0, .pointer none, .int .u64 0, .int .i64 0, .pointer none, .pointer (some ⟨B, 0, none⟩), .slice none 0 0, .int .i64 0, .bool false, .pointer none]
def O1 (B : Nat) : Obj := Obj.cells (o1a B) 63
def o1f (B i : Nat) : Value := ((o1a B)[i]?).getD undef
theorem o1_row (B i : Nat) (hi : i < 21) : (o1a B)[i]? = some (o1f B i) := by
  have h : i < (o1a B).size := hi
  unfold o1f
  rw [Array.getElem?_eq_getElem h]; rfl
def O2 (j s : Nat) : Obj := Obj.cells #[.string ⟨#[]⟩, .int .u32 ((j : Int) + 1), .bool false, .slice none 0 0, .pointer (some ⟨s, 0, none⟩)] 68

theorem setFar {w : World} {b t n : Nat} {f : Nat → Value} {a : Addr} {v : Value} (h : w.rowIs b t n f) (hne : b ≠ a.block) : (w.setCell a v).rowIs b t n f := h.of_block (Below.heap_setCell _ _ _ _ hne)
theorem row_congr {w : World} {b t n : Nat} {f g : Nat → Value} (h : w.rowIs b t n f) (e : ∀ i, i < n → f i = g i) : w.rowIs b t n g := by
  obtain ⟨c, h1, h2, h3⟩ := h
  exact ⟨c, h1, h2, fun i hi => by rw [← e i hi]; exact h3 i hi⟩

theorem Mk4.step {B j : Nat} {w : World} (h : Mk4 B j w) (hj : j < 4) :
    Mk4 B (j + 1) (((((w.setCell ⟨B + 2, j, none⟩ (.pointer (some ⟨w.heap.size, 0, none⟩))).alloc (O1 B)).alloc (O2 j w.heap.size)).setCell ⟨B + 1, j, none⟩ (.pointer (some ⟨w.heap.size + 1, 0, none⟩))).setCell ⟨w.heap.size, 20, none⟩ (.pointer (some ⟨w.heap.size + 1, 0, none⟩))) ∧
    Fr B [33, 35, 63] w (((((w.setCell ⟨B + 2, j, none⟩ (.pointer (some ⟨w.heap.size, 0, none⟩))).alloc (O1 B)).alloc (O2 j w.heap.size)).setCell ⟨B + 1, j, none⟩ (.pointer (some ⟨w.heap.size + 1, 0, none⟩))).setCell ⟨w.heap.size, 20, none⟩ (.pointer (some ⟨w.heap.size + 1, 0, none⟩))) := by
  have hs := h.size
  have key : ∀ {b t n : Nat} {f : Nat → Value}, w.rowIs b t n f → b ≠ B + 2 → b ≠ B + 1 → (((((w.setCell ⟨B + 2, j, none⟩ (.pointer (some ⟨w.heap.size, 0, none⟩))).alloc (O1 B)).alloc (O2 j w.heap.size)).setCell ⟨B + 1, j, none⟩ (.pointer (some ⟨w.heap.size + 1, 0, none⟩))).setCell ⟨w.heap.size, 20, none⟩ (.pointer (some ⟨w.heap.size + 1, 0, none⟩))).rowIs b t n f := fun {b t n f} hr h1 h2 => by
    have := hr.lt
    exact setFar (setFar (((setFar hr h1).alloc _).alloc _) h2) (by show b ≠ w.heap.size; omega)
  have e1 : asb B j = w.heap.size := by unfold asb; omega
  have e2 : aspb B j = w.heap.size + 1 := by unfold aspb; omega
  have ha : ((w.setCell ⟨B + 2, j, none⟩ (.pointer (some ⟨w.heap.size, 0, none⟩))).alloc (O1 B)).rowIs w.heap.size 63 21 (o1f B) := by
    have := row_new (w := w.setCell ⟨B + 2, j, none⟩ (.pointer (some ⟨w.heap.size, 0, none⟩))) (cs := o1a B) (t := 63) (f := o1f B) 21 rfl (fun i hi => o1_row B i hi)
    simpa [O1] using this
  have hp : (((w.setCell ⟨B + 2, j, none⟩ (.pointer (some ⟨w.heap.size, 0, none⟩))).alloc (O1 B)).alloc (O2 j w.heap.size)).rowIs (w.heap.size + 1) 68 5 (fun i => if i = 4 then .pointer (some ⟨w.heap.size, 0, none⟩) else if i = 0 then .string ⟨#[]⟩ else if i = 1 then .int .u32 ((j : Int) + 1) else if i = 2 then .bool false else .slice none 0 0) := by
    have := row_new (w := (w.setCell ⟨B + 2, j, none⟩ (.pointer (some ⟨w.heap.size, 0, none⟩))).alloc (O1 B)) (cs := #[.string ⟨#[]⟩, .int .u32 ((j : Int) + 1), .bool false, .slice none 0 0, .pointer (some ⟨w.heap.size, 0, none⟩)]) (t := 68) (f := fun i => if i = 4 then .pointer (some ⟨w.heap.size, 0, none⟩) else if i = 0 then .string ⟨#[]⟩ else if i = 1 then .int .u32 ((j : Int) + 1) else if i = 2 then .bool false else .slice none 0 0) 5 rfl (fun i hi => by
      have : i = 0 ∨ i = 1 ∨ i = 2 ∨ i = 3 ∨ i = 4 := by omega
      rcases this with rfl | rfl | rfl | rfl | rfl <;> rfl)
    simpa [O2] using this
  refine ⟨⟨by simp; omega, key h.box (by omega) (by omega), ?_, ?_, fun i hi => ?_, fun i hi => ?_⟩, ?_⟩
  · refine row_congr (setFar (((setFar h.pa (by show B + 1 ≠ B + 2; omega)).alloc _).alloc _ |>.set j _) (by show B + 1 ≠ w.heap.size; omega)) fun i hi => ?_
    by_cases c : i = j
    · subst c; simp [ptr, e2]
    · by_cases c2 : i < j
      · simp [c, c2, Nat.lt_succ_of_lt c2]
      · have : ¬ i < j + 1 := by omega
        simp [c, c2, this]
  · refine row_congr (setFar (setFar (((h.qa.set j _).alloc _).alloc _) (by show B + 2 ≠ B + 1; omega)) (by show B + 2 ≠ w.heap.size; omega)) fun i hi => ?_
    by_cases c : i = j
    · subst c; simp [ptr, e1]
    · by_cases c2 : i < j
      · simp [c, c2, Nat.lt_succ_of_lt c2]
      · have : ¬ i < j + 1 := by omega
        simp [c, c2, this]
  · by_cases c : i = j
    · subst c
      rw [e1]
      refine ⟨_, (setFar (ha.alloc _) (by show w.heap.size ≠ B + 1; omega)).set 20 _, ?_, ?_⟩ <;> rfl
    · obtain ⟨f, hf, hf2⟩ := h.asc i (by omega)
      exact ⟨f, key hf (by unfold asb; omega) (by unfold asb; omega), hf2⟩
  · by_cases c : i = j
    · subst c
      rw [e2, e1]
      exact ⟨_, setFar (setFar hp (by show w.heap.size + 1 ≠ B + 1; omega)) (by show w.heap.size + 1 ≠ w.heap.size; omega), rfl⟩
    · obtain ⟨f, hf, hf2⟩ := h.asp i (by omega)
      exact ⟨f, key hf (by unfold aspb; omega) (by unfold aspb; omega), hf2⟩
  · obtain ⟨cq, hcq⟩ := row_tag h.qa
    obtain ⟨cp, hcp⟩ := row_tag (((setFar (v := .pointer (some ⟨w.heap.size, 0, none⟩)) h.pa (a := ⟨B + 2, j, none⟩) (by show B + 1 ≠ B + 2; omega)).alloc (O1 B)).alloc (O2 j w.heap.size))
    exact (((((Fr.refl B [33, 35, 63] w).setCell (a := ⟨B + 2, j, none⟩) (Or.inr ⟨by show B ≤ B + 2; omega, cq, 35, _, hcq, by simp⟩) _).alloc _).alloc _).setCell (a := ⟨B + 1, j, none⟩) (Or.inr ⟨by show B ≤ B + 1; omega, cp, 33, _, hcp, by simp⟩) _).setCell (Or.inl (Nat.le_refl _)) _

def I2 (va vb vc : Value) (B : Nat) (w0 : World) (m : Nat) (f : Act) (w : World) : Prop :=
  ∃ j, j ≤ 4 ∧ m = 4 - j ∧ FB va vb vc B (B + 1) (B + 2) j f ∧ Mk4 B j w ∧ Fr B [33, 35, 63] w0 w

set_option maxRecDepth 100000 in
set_option maxHeartbeats 4000000 in
theorem loop2 {Q : Exit → Act → World → Prop} (B : Nat) (va vb vc : Value) (w : World) (hM : Mk4 B 0 w) (f : Act) (hF : FB va vb vc B (B + 1) (B + 2) 0 f)
    (hend : ∀ f' w', FB va vb vc B (B + 1) (B + 2) 4 f' → Mk4 B 4 w' → Fr B [33, 35, 63] w w' → Q (.exit 2) f' w') :
    Code.wp Ybad.prog ((Ybad.f3.body.bind (blk 2)).getD .skip) Q f w := by
  conv => arg 2; whnf
  refine wp_loop_ghost (I2 va vb vc B w) 4 ⟨0, Nat.zero_le _, rfl, hF, hM, Fr.refl _ _ _⟩ ?_
  clear hM hF f
  rintro m f w1 ⟨j, hj, rfl, ⟨hsz, hds, e0, e1, e2, e8, e9, e10, e11⟩, hM, hFr⟩
  obtain ⟨g, hg⟩ : ∃ g : Nat → Value, ∀ t, f.tmps[t]?.getD undef = g t := ⟨_, fun _ => rfl⟩
  rw [hg] at e0 e1 e2 e8 e9 e10 e11
  rw [lit368 f g hg hsz hds, e0, e1, e2, e8, e9, e10, e11]
  clear hg hsz hds e0 e1 e2 e8 e9 e10 e11
  have HE : Hid (∀ f' w', FB va vb vc B (B + 1) (B + 2) 4 f' → Mk4 B 4 w' → Fr B [33, 35, 63] w w' → Q (.exit 2) f' w') := hend
  have HM : Hid (Mk4 B j w1) := hM
  have HF : Hid (Fr B [33, 35, 63] w w1) := hFr
  clear hend hFr
  by_cases hlt : j < 4
  · have hj0 : (0 : Int) ≤ (j : Int) := by omega
    have hj1 : (j : Int) < 4 := by omega
    have cp := hM.pa.cell hlt
    have cq := hM.qa.cell hlt
    have fp := hM.pa.frozen j
    have fq := hM.qa.frozen j
    have lp := hM.pa.lt
    have lq := hM.qa.lt
    rw [if_neg (by omega)] at cp cq
    have pA : (w1.setCell ⟨B + 2, j, none⟩ (.pointer (some ⟨w1.heap.size, 0, none⟩))).rowIs (B + 1) 33 4 (fun i => if i < j then ptr (aspb B i) else .pointer none) := hM.pa.of_block (Below.heap_setCell _ _ _ _ (by simp))
    have pA2 := (pA.alloc (O1 B)).alloc (O2 j w1.heap.size)
    have cA := pA2.cell hlt
    rw [if_neg (by omega)] at cA
    have fA := pA2.frozen j
    have pB2 := ((pA.set j (.pointer (some ⟨w1.heap.size + 1, 0, none⟩))).alloc (O1 B)).alloc (O2 j w1.heap.size)
    have cB := pB2.cell hlt
    rw [if_pos rfl] at cB
    have aB : ((((w1.setCell ⟨B + 2, j, none⟩ (.pointer (some ⟨w1.heap.size, 0, none⟩))).setCell ⟨B + 1, j, none⟩ (.pointer (some ⟨w1.heap.size + 1, 0, none⟩))).alloc (O1 B)).alloc (O2 j w1.heap.size)).rowIs w1.heap.size 63 21 (o1f B) := by
      have := (row_new (w := (w1.setCell ⟨B + 2, j, none⟩ (.pointer (some ⟨w1.heap.size, 0, none⟩))).setCell ⟨B + 1, j, none⟩ (.pointer (some ⟨w1.heap.size + 1, 0, none⟩))) (cs := o1a B) (t := 63) (f := o1f B) 21 rfl (fun i hi => o1_row B i hi)).alloc (O2 j w1.heap.size)
      simpa [O1] using this
    have cC := aB.cell (i := 20) (by omega)
    have fC := aB.frozen 20
    unfold O1 o1a O2 at cA fA cB cC fC
    clear hM pA pA2 pB2 aB
    go_wp2_with fail
    obtain ⟨hM2, hF2⟩ := HM.out.step hlt
    exact ⟨4 - (j + 1), by omega, j + 1, by omega, rfl, ⟨rfl, rfl, rfl, rfl, rfl, rfl, rfl, rfl, by first | rfl | go_num⟩, hM2, HF.out.trans hF2⟩
  · obtain rfl : j = 4 := by omega
    clear hM
    go_wp2_with fail
    exact HE.out _ _ ⟨rfl, rfl, rfl, rfl, rfl, rfl, rfl, rfl, rfl⟩ HM.out HF.out
end Go.Proofs.YbulkbndkDoor.Pr
