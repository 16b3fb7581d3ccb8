/-
  The law's loop over the servers.
-/
import Derived.Test.YbulkbndkDoorLoB
namespace Go.Proofs.YbulkbndkDoor.Pr
set_option linter.unusedSimpArgs false
set_option linter.unusedVariables false
open Go.ChangeShapes Go.WideShapes Go.ChangeAt Go.RowKit

def F3 (va vb vc : Value) (B Sa n i : Nat) (f : Act) : Prop := f.tmps.size = 368 ∧ f.defers = [] ∧ f.tmps[0]?.getD undef = va ∧ f.tmps[1]?.getD undef = vb ∧ f.tmps[2]?.getD undef = vc ∧ f.tmps[8]?.getD undef = .pointer (some ⟨B, 0, none⟩) ∧ f.tmps[9]?.getD undef = .pointer (some ⟨B + 1, 0, none⟩) ∧ f.tmps[10]?.getD undef = .pointer (some ⟨B + 2, 0, none⟩) ∧ f.tmps[13]?.getD undef = .slice (some ⟨Sa, 0, none⟩) n n ∧ f.tmps[14]?.getD undef = .int .i64 (i : Int)
theorem run_mkmap (w : World) : (Instr.makeMap 79 (some (.int .i64 4))).run Ybad.prog w = .ok (.map (some w.heap.size)) (w.alloc (.map #[] 0)) := by
  simp [Instr.makeMap, run_underlying Ybad.underlying79, asInt, asIntOf]

def o3a (rc : Nat) (sx : ByteArray) (M : Nat) : Array Value := #[.string ⟨#[]⟩, .int .u32 (rc : Int), .int .u32 0, .int .u32 0, .slice none 0 0, .int .i64 0, .int .i64 0, .string sx, .slice none 0 0, .map (some M), .bool false, .pointer none, .pointer none, .pointer none, .pointer none, .pointer none, .pointer none, .pointer none, .pointer none, .pointer none, .pointer none, .pointer none, .pointer none, .pointer none, .pointer none, .pointer none, .pointer none, .pointer none, .int .u64 0, .int .u64 0, .int .u64 0, .int .u64 0, .slice none 0 0, .int .i64 0, .int .i64 0]
def o3f (rc : Nat) (sx : ByteArray) (M i : Nat) : Value := ((o3a rc sx M)[i]?).getD undef
theorem o3_row (rc : Nat) (sx : ByteArray) (M i : Nat) (hi : i < 35) : (o3a rc sx M)[i]? = some (o3f rc sx M i) := by
  have h : i < (o3a rc sx M).size := hi
  unfold o3f
  rw [Array.getElem?_eq_getElem h]; rfl
def W3 (w : World) (rc : Nat) (sx : ByteArray) : World := (w.alloc (.map #[] 0)).alloc (.cells (o3a rc sx w.heap.size) 86)

def I3 (va vb vc : Value) (B Sa n : Nat) (SV : Nat → Sv) (w0 : World) (m : Nat) (f : Act) (w : World) : Prop :=
  ∃ i A M af, i ≤ n ∧ m = n - i ∧ F3 va vb vc B Sa n i f ∧ Srvs B i SV A M af w ∧ w.rowIs Sa 72 n (fun k => if k < i then ptr (A k) else .pointer none) ∧ Fr B [72] w0 w

set_option maxRecDepth 100000 in
set_option maxHeartbeats 4000000 in
theorem loop3 {Q : Exit → Act → World → Prop} (sa : Option Addr) (sc : Nat) (vb vc : Value) (B Sa n : Nat) (SV : Nat → Sv) (hO : ∀ i, (SV i).Ok) (ma : Nat → Option Addr) (mc : Nat → Nat) (hn : n ≤ 64) (w : World) (hI : Inp B n SV sa ma mc w) (hP : Asps B w) (hpa : w.rowIs (B + 1) 33 4 (fun i => ptr (aspb B i))) (hSa : B + 2 < Sa)
    (hrow : w.rowIs Sa 72 n (fun _ => .pointer none)) (f : Act) (hF : F3 (.slice sa n sc) vb vc B Sa n 0 f)
    (hend : ∀ f' w' A M af, F3 (.slice sa n sc) vb vc B Sa n n f' → Srvs B n SV A M af w' → w'.rowIs Sa 72 n (fun k => if k < n then ptr (A k) else .pointer none) → Fr B [72] w w' → Q (.exit 4) f' w') :
    Code.wp Ybad.prog ((Ybad.f3.body.bind (blk 4)).getD .skip) Q f w := by
  conv => arg 2; whnf
  refine wp_loop_ghost (I3 (.slice sa n sc) vb vc B Sa n SV w) n ⟨0, fun _ => 0, fun _ => 0, fun _ _ => undef, Nat.zero_le _, rfl, hF, fun i hi => by omega, row_congr hrow (fun i _ => by simp), Fr.refl _ _ _⟩ ?_
  clear hF f hrow
  rintro m f w1 ⟨i, A, M, af, hi, rfl, ⟨hsz, hds, e0, e1, e2, e8, e9, e10, e13, e14⟩, hS, hR, hFr⟩
  obtain ⟨g, hg⟩ : ∃ g : Nat → Value, ∀ t, f.tmps[t]?.getD undef = g t := ⟨_, fun _ => rfl⟩
  rw [hg] at e0 e1 e2 e8 e9 e10 e13 e14
  rw [lit368 f g hg hsz hds, e0, e1, e2, e8, e9, e10, e13, e14]
  clear hg hsz hds e0 e1 e2 e8 e9 e10 e13 e14
  have HE : Hid (∀ f' w' A M af, F3 (.slice sa n sc) vb vc B Sa n n f' → Srvs B n SV A M af w' → w'.rowIs Sa 72 n (fun k => if k < n then ptr (A k) else .pointer none) → Fr B [72] w w' → Q (.exit 4) f' w') := hend
  have HS : Hid (Srvs B i SV A M af w1) := hS
  have HR : Hid (w1.rowIs Sa 72 n (fun k => if k < i then ptr (A k) else .pointer none)) := hR
  have HF : Hid (Fr B [72] w w1) := hFr
  by_cases hlt : i < n
  · have hI0 : (0 : Int) ≤ (i : Int) := by omega
    have hI1 : (i : Int) < (n : Int) := by omega
    have hInp := hI.fr hFr
    obtain ⟨sb, so, rfl, hsb, c0, c1, c2, c3⟩ := hInp.srv i hlt
    have HInp : Hid (Inp B n SV (some ⟨sb, so, none⟩) ma mc w1) := hInp
    have HP : Hid (Asps B w1) := hP.fr hFr (by decide)
    have HPa : Hid (w1.rowIs (B + 1) 33 4 (fun i => ptr (aspb B i))) := hFr.row hpa (by decide)
    have HO : Hid ((SV i).Ok) := hO i
    have hst := (hO i).st
    have hmk := run_mkmap
    have HC : Hid (sb < B ∧ w1.cell? ⟨sb, so + i * 7, none⟩ = some (.int .u32 ((SV i).rc : Int)) ∧ w1.cell? ⟨sb, so + i * 7 + 2, none⟩ = some (.slice (ma i) (SV i).ms.length (mc i)) ∧ ∀ j, j < 4 → w1.cell? ⟨sb, so + i * 7 + 3 + j, none⟩ = some (.int .u8 ((SV i).ss j : Int))) := ⟨hsb, c0, c2, c3⟩
    clear hend hS hR hFr hI hP hpa hO hInp c2 c3
    go_wp2_with fail
    refine (asState_any (SV i).st hst w1).mono ?_
    rintro e w2 ⟨rfl, rfl⟩
    obtain ⟨sx, hsx⟩ := asS_str (SV i).st
    go_wp2_with fail
    rename_i K1 hK1
    have hA3 : (W3 w2 (SV i).rc sx).rowIs (w2.heap.size + 1) 86 35 (o3f (SV i).rc sx w2.heap.size) := by
      have := row_new (w := w2.alloc (.map #[] 0)) (cs := o3a (SV i).rc sx w2.heap.size) (t := 86) (f := o3f (SV i).rc sx w2.heap.size) 35 rfl (fun j hj => o3_row _ _ _ j hj)
      simpa [W3] using this
    have hM3 : (W3 w2 (SV i).rc sx).heap[w2.heap.size]? = some (.map (mapEs B (SV i).ss 0) 0) := by
      unfold W3
      rw [Below.heap_alloc _ _ _ (by simp)]
      exact heap_alloc_new w2 _
    have hK3 : Keeps (fun _ => False) w2 (W3 w2 (SV i).rc sx) := ((Keeps.refl _ w2).alloc _).alloc _
    have hF3 : Fr B [] w2 (W3 w2 (SV i).rc sx) := hK3.fr (fun _ _ h => h.elim)
    have lPa := HPa.out.lt
    refine loop4 vb vc B Sa n i (w2.heap.size + 1) w2.heap.size sb so sc (SV i).ss HO.out.ss hlt (o3f (SV i).rc sx w2.heap.size) (W3 w2 (SV i).rc sx) hA3 rfl hM3 (HP.out.fr hF3 (by simp)) (fun j hj => (hF3.row HPa.out (by simp)).cell hj) (fun j hj => hF3.cellLow HC.out.1 (HC.out.2.2.2 j hj)) _ ⟨rfl, rfl, rfl, rfl, rfl, rfl, rfl, rfl, rfl, rfl, rfl, rfl⟩ ?_
    rintro f' w4 ⟨hsz, hds, e0, e1, e2, e8, e9, e10, e13, e14, e17, e18⟩ hM4 hK4
    obtain ⟨g4, hg4⟩ : ∃ g4 : Nat → Value, ∀ t, f'.tmps[t]?.getD undef = g4 t := ⟨_, fun _ => rfl⟩
    rw [hg4] at e0 e1 e2 e8 e9 e10 e13 e14 e17 e18
    rw [lit368 f' g4 hg4 hsz hds, e0, e1, e2, e8, e9, e10, e13, e14, e17, e18]
    clear hg4 hsz hds e0 e1 e2 e8 e9 e10 e13 e14 e17 e18
    have hK24 : Keeps (fun _ => False) w2 w4 := hK3.trans hK4 (fun j hj h => by omega)
    have hA4 := hA3.of_block (hK4.block (w2.heap.size + 1) hA3.lt (by omega))
    have hF4 : Fr B [] w2 w4 := hK24.fr (fun _ _ h => h.elim)
    have d2 := hF4.cellLow HC.out.1 HC.out.2.2.1
    have HK24 : Hid (Keeps (fun _ => False) w2 w4) := hK24
    have HA4 : Hid (w4.rowIs (w2.heap.size + 1) 86 35 (o3f (SV i).rc sx w2.heap.size)) := hA4
    have HM4 : Hid (w4.heap[w2.heap.size]? = some (.map (mapEs B (SV i).ss 4) 4)) := hM4
    have HF4 : Hid (Fr B [] w2 w4) := hF4
    have HSX : Hid (asS (SV i).st = .string sx) := hsx
    clear hA3 hM3 hK3 hF3 hK24 hA4 hM4 hK4 hF4 hsx hmk c0 c1
    refine hK1 _ _ ?_
    clear hK1
    go_wp2_with fail
    rename_i K2 hK2
    refine loop5 (.slice (some ⟨sb, so, none⟩) n sc) vb vc B Sa n i (w2.heap.size + 1) (ma i) (mc i) (SV i).ms HO.out.ms HO.out.len (o3f (SV i).rc sx w2.heap.size) w4 HA4.out rfl ((HInp.out.mem i hlt).fr HF4.out) (fun j hj => (HF4.out.row HPa.out (by simp)).cell hj) (by omega) _ ⟨rfl, rfl, rfl, rfl, rfl, rfl, rfl, rfl, rfl, rfl, rfl, rfl, rfl, rfl⟩ ?_
    rintro f'' w5 mv ⟨hsz, hds, e0, e1, e2, e8, e9, e10, e13, e14, e17, e147, e148, e149⟩ hR5 hO5 hK5
    obtain ⟨g5, hg5⟩ : ∃ g5 : Nat → Value, ∀ t, f''.tmps[t]?.getD undef = g5 t := ⟨_, fun _ => rfl⟩
    rw [hg5] at e0 e1 e2 e8 e9 e10 e13 e14 e17 e147 e148 e149
    rw [lit368 f'' g5 hg5 hsz hds, e0, e1, e2, e8, e9, e10, e13, e14, e17, e147, e148, e149]
    clear hg5 hsz hds e0 e1 e2 e8 e9 e10 e13 e14 e17 e147 e148 e149
    have hK25 : Keeps (fun _ => False) w2 w5 := HK24.out.trans hK5 (fun j hj h => by omega)
    have hF5 : Fr B [] w2 w5 := hK25.fr (fun _ _ h => h.elim)
    have hM5 : w5.heap[w2.heap.size]? = some (.map (mapEs B (SV i).ss 4) 4) := (hK5.block _ (by have := HA4.out.lt; omega) (by omega)).trans HM4.out
    have hS5 := hF5.row HR.out (by simp)
    have cS := hS5.cell hlt
    rw [if_neg (by omega)] at cS
    have fS := hS5.frozen i
    have HF5 : Hid (Fr B [] w2 w5) := hF5
    have HM5 : Hid (w5.heap[w2.heap.size]? = some (.map (mapEs B (SV i).ss 4) 4)) := hM5
    have HS5 : Hid (w5.rowIs Sa 72 n (fun k => if k < i then ptr (A k) else .pointer none)) := hS5
    have HR5 : Hid (w5.rowIs (w2.heap.size + 1) 86 35 (amem (o3f (SV i).rc sx w2.heap.size) mv)) := hR5
    have HO5 : Hid (w5.ownsRow B 32 1 mv (SV i).ms.length ((SV i).ms.map fun m => ptr (aspb B (m % 4)))) := hO5
    clear hK25 hF5 hM5 hS5 hR5 hO5 hK5 d2
    refine hK2 _ _ ?_
    clear hK2
    go_wp2_with fail
    have hF6 : Fr B [72] w5 (w5.setCell ⟨Sa, i, none⟩ (.pointer (some ⟨w2.heap.size + 1, 0, none⟩))) := by
      obtain ⟨c, hc⟩ := row_tag HS5.out
      exact (Fr.refl _ _ _).setCell (a := ⟨Sa, i, none⟩) (Or.inr ⟨by show B ≤ Sa; omega, c, 72, _, hc, by simp⟩) _
    have hF26 : Fr B [72] w2 (w5.setCell ⟨Sa, i, none⟩ (.pointer (some ⟨w2.heap.size + 1, 0, none⟩))) := HF5.out.none.trans hF6
    refine ⟨n - (i + 1), by omega, i + 1, fun k => if k = i then w2.heap.size + 1 else A k, fun k => if k = i then w2.heap.size else M k, fun k => if k = i then amem (o3f (SV i).rc sx w2.heap.size) mv else af k, by omega, rfl, ⟨rfl, rfl, rfl, rfl, rfl, rfl, rfl, rfl, rfl, by first | rfl | go_num⟩, fun k hk => ?_, ?_, HF.out.trans hF26⟩
    · by_cases e : k = i
      · subst e
        simp only [if_true]
        exact ⟨hF6.row HR5.out (by decide), rfl, HSX.out.symm, rfl, hF6.owns HO5.out (by decide), hF6.map HM5.out⟩
      · simp only [if_neg e]
        exact (HS.out k (by omega)).fr hF26 (by decide) (by decide)
    · refine row_congr (HS5.out.set i _) fun k hk => ?_
      by_cases e : k = i
      · subst e; simp [ptr]
      · by_cases c : k < i
        · simp [e, c, Nat.lt_succ_of_lt c]
        · have : ¬ k < i + 1 := by omega
          simp [e, c, this]
  · obtain rfl : i = n := by omega
    have hI1 : ¬ (i : Int) < (i : Int) := by omega
    clear hend hS hR hFr hI
    go_wp2_with fail
    exact HE.out _ _ A M af ⟨rfl, rfl, rfl, rfl, rfl, rfl, rfl, rfl, rfl, rfl⟩ HS.out HR.out HF.out
end Go.Proofs.YbulkbndkDoor.Pr
