/-
  The law (function 3), whole.
-/
import Derived.Test.YbulkbnbuL2
namespace Go.Proofs.Ybulkbnbu.Kn
set_option linter.unusedSimpArgs false
set_option linter.unusedVariables false
open Go.ChangeShapes Go.WideShapes Go.ChangeAt Go.RowKit
open Go.Proofs.Ybulkbnbu.Fl Go.Proofs.Ybulkbnbu.Pl Go.Sort
attribute [local go_sem] run_store_float

theorem below_keeps {B : Nat} {w w1 w2 : World} (h : Below B w w1) (hk : Keeps (fun _ => False) w1 w2) (hB : B ≤ w1.heap.size) : Below B w w2 :=
  ⟨hk.os.trans h.os, hk.tape.trans h.tape, hk.output.trans h.output, Nat.le_trans h.size hk.size, fun k hl => (hk.block k (by omega) (fun h => h)).trans (h.block k hl)⟩

set_option maxRecDepth 100000 in
set_option maxHeartbeats 8000000 in
theorem l1 {Rr : Ending → World → Prop} (a0 : Option Addr) (len0 cap0 : Nat) (z0 : List Int) (a1 : Option Addr) (len1 cap1 : Nat) (z1 : List Int) (a2 : Int) (n : Nat) (f : Act) (w : World) (h0 : Src w a0 len0 z0) (h1 : Src w a1 len1 z1) (n0 : n ≤ len0) (n1 : n ≤ len1) (hn : n ≤ 12) (hb2 : 0 ≤ a2 ∧ a2 ≤ 255)
    (hsz : f.tmps.size = 132) (hds : f.defers = []) (e0 : f.tmps[0]?.getD undef = .slice a0 len0 cap0) (e1 : f.tmps[1]?.getD undef = .slice a1 len1 cap1) (e2 : f.tmps[2]?.getD undef = .int .u8 a2) (e7 : f.tmps[7]?.getD undef = .int .i64 (n : Int))
    (hR : ∀ w', Below w.heap.size w w' → Rr (.returned (.bool true)) w') :
    Code.wp Yba.prog ((Yba.f3.body.bind (from_ 6)).getD .skip) (bodyPost Yba.prog Yba.f3 Rr) f w := by
  conv => arg 2; whnf
  obtain ⟨g, hg⟩ : ∃ g : Nat → Value, ∀ t, f.tmps[t]?.getD undef = g t := ⟨_, fun _ => rfl⟩
  rw [hg] at e0 e1 e2 e7
  rw [lit132 f g hg hsz hds, e0, e1, e2, e7]
  clear hg hsz hds e0 e1 e2 e7

  obtain ⟨cap, hcap⟩ : ∃ cap : Nat, Int.tmod a2 48 = (cap : Int) := ⟨(Int.tmod a2 48).toNat, by rw [Int.tmod_eq_emod_of_nonneg hb2.1]; omega⟩
  have hcapb : cap ≤ 47 := by rw [Int.tmod_eq_emod_of_nonneg hb2.1] at hcap; omega
  have hs : ∀ i, 1 ≤ (szOf z0 i).toNat ∧ (szOf z0 i).toNat ≤ 7 := fun i => by have := szOf_bd z0 i; omega
  have hv : ∀ i, vlOf z1 i ≤ 9 := vlOf_bd z1
  have hsi : szOf z0 = fun i => (((szOf z0 i).toNat : Nat) : Int) := by funext i; have := szOf_bd z0 i; omega
  have hIt := items_any a0 len0 cap0 z0 a1 len1 cap1 z1 n w h0 h1 n0 n1 (by omega)
  have HR : Hid (_) := hR
  have HI : Hid (_) := hIt
  have HSI : Hid (_) := hsi
  have HSV : Hid (_) := And.intro hs hv
  clear hR hIt h0 h1 hsi hs hv
  have c1 : (0 : Int) ≤ a2 := hb2.1
  have c2 : a2 ≤ 255 := hb2.2
  go_wp2_with (first
    | (go_at_call 5; refine Calls.mono HI.out ?_; rintro e w1 ⟨rfl, hrow1, hb1⟩; have H1 : Hid (_) := And.intro hrow1 hb1; clear hrow1 hb1)
    | (go_at_call 6; refine Calls.mono (clone_any w.heap.size n n _ w1 (by omega) H1.out.1 (fun j hj => by unfold itemF; split <;> rfl)) ?_; rintro e w2 ⟨go, co, rfl, hg2, hgl2, hgm2, hk2⟩; have H2 : Hid (_) := And.intro hg2 (And.intro hgl2 (And.intro hgm2 hk2)); clear hg2 hgl2 hgm2 hk2))
  rename_i Kc hKc Kr hKr
  have HKc : Hid (_) := hKc
  clear hKc
  have hrow1 := H1.out.1
  have hrow2 := hrow1.of_block (H2.out.2.2.2.block w.heap.size hrow1.lt (fun h => h))
  rw [HSI.out] at hrow2
  refine Calls.mono (best_any w.heap.size n cap (fun i => (szOf z0 i).toNat) (vlOf z1) w2 hrow2 hn HSV.out.1 HSV.out.2 hcapb) ?_
  rintro e w3 ⟨got, C, hB, ⟨p, cc, rfl, hL⟩, hk3⟩
  have H3 : Hid (_) := And.intro hB (And.intro hL hk3)
  clear hB hL hk3
  have hfr : ∀ (a : Act), a.tmps.size = 132 → a.defers = [] → a.tmps[7]?.getD undef = .int .i64 (n : Int) → a.tmps[8]?.getD undef = .slice (some ⟨w.heap.size, 0, none⟩) n n → a.tmps[9]?.getD undef = .slice (some ⟨go, 0, none⟩) n co → a.tmps[10]?.getD undef = .int .i64 (cap : Int) → a.tmps[11]?.getD undef = .float .f64 (W got) → a.tmps[12]?.getD undef = .slice p C.length cc → Code.wp Yba.prog ((Yba.f3.body.bind (at_ 10)).getD .skip) (bodyPost Yba.prog Yba.f3 Rr) a w3 := fun a a1 a2 a3 a4 a5 a6 a7 a8 => by
    obtain ⟨hB, hL, hk3⟩ := H3.out
    obtain ⟨hg2, hgl2, hgm2, hk2⟩ := H2.out
    have hrow3 := hrow2.of_block (hk3.block w.heap.size hrow2.lt (fun h => h))
    have hg3 : ∀ j, j < n * 2 → w3.cell? ⟨go, j, none⟩ = some (itemF (szOf z0) (vlOf z1) j) := fun j hj => hk3.cell (hg2 j hj) (fun h => h)
    have hE := equal_any w.heap.size go n n co (szOf z0) (vlOf z1) w3 (by omega) (fun i => by have := HSV.out.2 i; omega) (fun j hj => by rw [HSI.out]; exact hrow3.cell hj) hg3
    refine l2 w.heap.size go n co cap got cc p C (fun i => (szOf z0 i).toNat) (vlOf z1) a w3 hL (fun i hi => ⟨?_, ?_⟩) hB hn HSV.out.1 HSV.out.2 hcapb a1 a2 a3 a4 a5 a6 a7 a8 hE ?_
    · rw [hg3 (i * 2) (by omega), item_at0]
      have hbz := szOf_bd z0 i
      have ez : (((szOf z0 i).toNat : Nat) : Int) = szOf z0 i := by omega
      show some (Value.int .i64 (szOf z0 i)) = some (Value.int .i64 (((szOf z0 i).toNat : Nat) : Int))
      rw [ez]
    · rw [hg3 (i * 2 + 1) (by omega), item_at1]
    · intro w' hk'
      have hs1 := H1.out.2.size
      refine HR.out w' (below_keeps (below_keeps (below_keeps H1.out.2 hk2 ?_) hk3 ?_) hk' ?_)
      · omega
      · have := hk2.size; omega
      · have := hk2.size; have := hk3.size; omega
  have HF : Hid (_) := hfr
  clear hfr hrow1 hrow2
  go_wp2_with fail
  refine HKc.out _ _ ?_
  exact HF.out _ rfl rfl rfl rfl rfl rfl rfl rfl

set_option maxRecDepth 100000 in
set_option maxHeartbeats 8000000 in
theorem law_any (a0 : Option Addr) (len0 cap0 : Nat) (z0 : List Int) (a1 : Option Addr) (len1 cap1 : Nat) (z1 : List Int) (a2 : Int) (w : World) (h0 : Src w a0 len0 z0) (h1 : Src w a1 len1 z1) (m0 : len0 ≤ maxLen) (m1 : len1 ≤ maxLen) (hb2 : 0 ≤ a2 ∧ a2 ≤ 255) :
    Calls Yba.prog 3 #[.slice a0 len0 cap0, .slice a1 len1 cap1, .int .u8 a2] w fun e w' => e = .returned (.bool true) ∧ Below w.heap.size w w' := by
  unfold maxLen at m0 m1
  have HS : Hid (_) := And.intro h0 h1
  clear h0 h1
  go_enter Yba.func3, Yba.ntmps3
  refine wp_seq_k fun K0 hK0 => ?_
  have H0 : Hid (_) := hK0
  clear hK0
  go_wp2_with fail
  refine H0.out _ _ ?_
  clear H0
  refine wp_seq_k fun K0 hK0 => ?_
  have H0 : Hid (_) := hK0
  clear hK0
  go_wp2_with fail
  refine H0.out _ _ ?_
  clear H0
  refine wp_seq_k fun K0 hK0 => ?_
  have H0 : Hid (_) := hK0
  clear hK0
  by_cases hl : len1 < len0
  · have b1 : (len1 : Int) < (len0 : Int) := by omega
    go_wp2_with fail
    refine H0.out _ _ ?_
    clear H0
    refine wp_seq_k fun K0 hK0 => ?_
    have H0 : Hid (_) := hK0
    clear hK0
    by_cases h12 : 12 < len1
    · have b2 : (12 : Int) < (len1 : Int) := by omega
      go_wp2_with fail
      refine H0.out _ _ ?_
      exact l1 a0 len0 cap0 z0 a1 len1 cap1 z1 a2 12 _ w HS.out.1 HS.out.2 (by omega) (by omega) (by omega) hb2 rfl rfl rfl rfl rfl rfl (fun w' hb => ⟨rfl, hb⟩)
    · have b2 : ¬ (12 : Int) < (len1 : Int) := by omega
      go_wp2_with fail
      refine H0.out _ _ ?_
      exact l1 a0 len0 cap0 z0 a1 len1 cap1 z1 a2 len1 _ w HS.out.1 HS.out.2 (by omega) (by omega) (by omega) hb2 rfl rfl rfl rfl rfl rfl (fun w' hb => ⟨rfl, hb⟩)
  · have b1 : ¬ (len1 : Int) < (len0 : Int) := by omega
    go_wp2_with fail
    refine H0.out _ _ ?_
    clear H0
    refine wp_seq_k fun K0 hK0 => ?_
    have H0 : Hid (_) := hK0
    clear hK0
    by_cases h12 : 12 < len0
    · have b2 : (12 : Int) < (len0 : Int) := by omega
      go_wp2_with fail
      refine H0.out _ _ ?_
      exact l1 a0 len0 cap0 z0 a1 len1 cap1 z1 a2 12 _ w HS.out.1 HS.out.2 (by omega) (by omega) (by omega) hb2 rfl rfl rfl rfl rfl rfl (fun w' hb => ⟨rfl, hb⟩)
    · have b2 : ¬ (12 : Int) < (len0 : Int) := by omega
      go_wp2_with fail
      refine H0.out _ _ ?_
      exact l1 a0 len0 cap0 z0 a1 len1 cap1 z1 a2 len0 _ w HS.out.1 HS.out.2 (by omega) (by omega) (by omega) hb2 rfl rfl rfl rfl rfl rfl (fun w' hb => ⟨rfl, hb⟩)
end Go.Proofs.Ybulkbnbu.Kn
