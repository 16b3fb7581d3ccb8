/-
  Best (function 7): the scaled items are laid.
-/
import Derived.Test.YbulkbnbuT3
namespace Go.Proofs.Ybulkbnbu.Kn
set_option linter.unusedSimpArgs false
set_option linter.unusedVariables false
open Go.ChangeShapes Go.WideShapes Go.ChangeAt Go.RowKit
open Go.Proofs.Ybulkbnbu.Fl Go.Proofs.Ybulkbnbu.Pl Go.Sort
attribute [local go_sem] run_store_float

theorem sm_bd (f : Nat → Nat) (h : ∀ i, f i ≤ 9) (k : Nat) : sm f k ≤ 9 * k := by
  induction k with
  | zero => simp [sm]
  | succ k ih => have := h k; simp only [sm]; omega

set_option maxRecDepth 100000 in
set_option maxHeartbeats 8000000 in
theorem t2 {Rr : Ending → World → Prop} (ib n c cap u kc H : Nat) (p : Option Addr) (K : List Nat) (s v : Nat → Nat) (f : Act) (w : World) (hL : Lst w H p K) (hI : Itm w ib n s v) (hib : ib < w.heap.size) (hKn : ∀ x ∈ K, x < n) (hlen : K.length ≤ 12) (hn : n ≤ 12) (hs : ∀ i, 1 ≤ s i ∧ s i ≤ 7) (hv : ∀ i, v i ≤ 9) (hu : 0 < u) (hdvd : ∀ j, j < K.length → u ∣ s (K.getD j 0)) (hcap : cap ≤ 47)
    (hsz : f.tmps.size = 222) (hds : f.defers = []) (e0 : f.tmps[0]?.getD undef = .slice (some ⟨ib, 0, none⟩) n c) (e1 : f.tmps[1]?.getD undef = .int .i64 (cap : Int)) (e12 : f.tmps[12]?.getD undef = .slice p K.length kc) (e13 : f.tmps[13]?.getD undef = .int .i64 (u : Int))
    (hR : ∀ e w', Bested (F (fun j => s (K.getD j 0) / u) (fun j => v (K.getD j 0)) K.length (cap / u)) ((R (fun j => s (K.getD j 0) / u) (fun j => v (K.getD j 0)) K.length (cap / u)).map fun j => K.getD j 0) w.heap.size e w' → Keeps (fun _ => False) w w' → Rr e w') :
    Code.wp Yba.prog ((Yba.f7.body.bind (from_ 27)).getD .skip) (bodyPost Yba.prog Yba.f7 Rr) f w := by
  conv => arg 2; whnf
  obtain ⟨g, hg⟩ : ∃ g : Nat → Value, ∀ t, f.tmps[t]?.getD undef = g t := ⟨_, fun _ => rfl⟩
  rw [hg] at e0 e1 e12 e13
  rw [lit222 f g hg hsz hds, e0, e1, e12, e13]
  clear hg hsz hds e0 e1 e12 e13

  obtain ⟨vf, hvf⟩ : ∃ vf : Nat → Nat, vf = fun j => v (K.getD j 0) := ⟨_, rfl⟩
  obtain ⟨zf, hzf⟩ : ∃ zf : Nat → Int, zf = fun j => ((s (K.getD j 0) / u : Nat) : Int) := ⟨_, rfl⟩
  have HF : Hid (_) := And.intro hvf hzf
  have hvk : ∀ k, vf k = v (K.getD k 0) := fun k => by rw [hvf]
  have hzk : ∀ k, zf k = ((s (K.getD k 0) / u : Nat) : Int) := fun k => by rw [hzf]
  have hmk := made_run w K.length (by omega)
  have hrow0 := made w K.length zf vf
  have hk0 : Keeps (fun _ => False) w (w.alloc (.cells (madeCells (Value.agg #[.int .i64 0, .float .f64 0]).cells (K.length * 2)) 28)) := (Keeps.refl _ w).alloc _
  have HR : Hid (_) := hR
  have H0 : Hid (_) := And.intro hL (And.intro hI (And.intro hKn (And.intro hs (And.intro hv (And.intro hdvd (And.intro hvk hzk))))))
  clear hR hL hI hKn hs hv hdvd hvk hzk hvf hzf
  go_wp2
  clear hmk
  rename_i K9 hK9
  have HK9 : Hid (_) := hK9
  clear hK9
  go_loopw [17, 18, 19, 94] (fun tv _ _ iv wr => ∃ k : Nat, k ≤ K.length ∧ iv = .int .i64 (k : Int) ∧ tv = .float .f64 (W (sm vf k)) ∧ wr.rowIs w.heap.size 28 (K.length * 2) (partF zf vf k) ∧ Keeps (fun _ => False) w wr) (fun _ _ _ iv _ => K.length - (intOf iv).toNat)
  case atStart => exact ⟨0, Nat.zero_le _, rfl, rfl, hrow0, hk0⟩
  case round =>
    obtain ⟨k, hk, rfl, rfl, hrw, hkp⟩ := hrel
    obtain ⟨hL, hI, hKn, hs, hv, hdvd, hvk, hzk⟩ := H0.out
    clear hrow0 hk0
    by_cases hlt : k < K.length
    · obtain ⟨g, rfl, hgH, hgl, hgc⟩ := hL (by intro e; rw [e] at hlt; simp at hlt)
      have hkx : K[k]? = some (K.getD k 0) := by rw [List.getD_eq_getElem?_getD, List.getElem?_eq_getElem (by omega)]; rfl
      have cK := hkp.cell (hgc k _ hkx) (fun h => h)
      have hxn : K.getD k 0 < n := hKn _ (List.mem_of_getElem? hkx)
      have cI := hkp.cell (hI (K.getD k 0) hxn).1 (fun h => h)
      have cV := hkp.cell (hI (K.getD k 0) hxn).2 (fun h => h)
      have hsb := hs (K.getD k 0)
      have hvb := hv (K.getD k 0)
      have hdl : s (K.getD k 0) / u ≤ 7 := Nat.le_trans (Nat.div_le_self _ _) hsb.2
      have hdx : Int.tdiv (s (K.getD k 0) : Int) (u : Int) = ((s (K.getD k 0) / u : Nat) : Int) := by rw [Int.tdiv_eq_ediv_of_nonneg (by omega)]; simp
      have hsm := sm_bd vf (fun j => by rw [hvk]; exact hv _) k
      have HS1 : Hid (sm vf (k + 1) = sm vf k + vf k) := rfl
      have b1 : (k : Int) < (K.length : Int) := by omega
      have b2 : (0 : Int) ≤ (k : Int) := by omega
      have b3 : (0 : Int) ≤ ((K.getD k 0 : Nat) : Int) := by omega
      have b4 : ((K.getD k 0 : Nat) : Int) < (n : Int) := by omega
      have hvk1 := hvk k
      have hzk1 := hzk k
      have HW : Hid (_) := And.intro hrw hkp
      clear hrw hkp hL hI hKn hs hv hdvd hgc hkx hvk hzk
      generalize K.getD k 0 = x at *
      have hadd := fun w => addF w (sm vf k) (v x) (by omega)
      generalize hdd : s x / u = dd at *
      have hzb1 : 0 ≤ zf k := by rw [hzk1]; omega
      have hzb2 : zf k < 1000 := by rw [hzk1]; omega
      have HSK : Hid (_) := And.intro hzk1 hvk1
      clear hzk1 hvk1 hdd
      go_wp2_with fail
      rename_i K1 hK1
      refine c32 ib w.heap.size n c K.length k x (s x : Int) (u : Int) zf vf _ wr rfl rfl rfl rfl rfl rfl rfl cI (by rw [HSK.out.2]; exact cV) (by omega) hxn hlt (by omega) (by rw [HSK.out.1]; exact hdx) hzb1 hzb2 HW.out.1 ?_
      rw [HSK.out.2]
      refine hK1 _ _ ?_
      clear hK1
      have hkp2 : Keeps (fun _ => False) w ((wr.drew.setCell ⟨w.heap.size, k * 2, none⟩ (.int .i64 (zf k))).setCell ⟨w.heap.size, k * 2 + 1, none⟩ (.float .f64 (W (v x)))) := ((HW.out.2.drew).setCell (fun h => absurd h (by show ¬ w.heap.size < w.heap.size; omega)) _).setCell (fun h => absurd h (by show ¬ w.heap.size < w.heap.size; omega)) _
      have hrw2 := (((World.rowIs.drew HW.out.1).set (k * 2) (.int .i64 (zf k))).set (k * 2 + 1) (.float .f64 (W (v x)))).congr (g := partF zf vf (k + 1)) (fun j _ => by
        have := part_step zf vf k j
        rw [HSK.out.2] at this
        exact this)
      have cV2 := hkp2.cell ((H0.out.2.1 x hxn).2) (fun h => h)
      have HW2 : Hid (_) := And.intro hrw2 hkp2
      clear hrw2 hkp2 cI cV cK
      generalize ((wr.drew.setCell ⟨w.heap.size, k * 2, none⟩ (.int .i64 (zf k))).setCell ⟨w.heap.size, k * 2 + 1, none⟩ (.float .f64 (W (v x)))) = w3 at *
      go_wp2_with fail
      go_roundw
      case rel => exact ⟨k + 1, by omega, by go_num, by rw [HS1.out, HSK.out.2], HW2.out.1, HW2.out.2⟩
      case measure => simp [intOf]; omega
    · obtain rfl : k = K.length := by omega
      have b1 : ¬ (K.length : Int) < (K.length : Int) := by omega
      have HE : Hid (_) := And.intro hrw hkp
      clear hrw hkp hL hI hKn hs hv hdvd hvk hzk
      have hfr : ∀ (a : Act), a.tmps.size = 222 → a.defers = [] → a.tmps[0]?.getD undef = .slice (some ⟨ib, 0, none⟩) n c → a.tmps[1]?.getD undef = .int .i64 (cap : Int) → a.tmps[12]?.getD undef = .slice p K.length kc → a.tmps[13]?.getD undef = .int .i64 (u : Int) → a.tmps[16]?.getD undef = .slice (some ⟨w.heap.size, 0, none⟩) K.length K.length → a.tmps[17]?.getD undef = .float .f64 (W (sm vf K.length)) → Code.wp Yba.prog ((Yba.f7.body.bind (from_ 35)).getD .skip) (bodyPost Yba.prog Yba.f7 Rr) a wr := fun a a1 a2 a3 a4 a5 a6 a7 a8 => by
        obtain ⟨hL, hI, hKn, hs, hv, hdvd, hvk, hzk⟩ := H0.out
        have hsm := sm_bd vf (fun j => by rw [hvk]; exact hv _) K.length
        have hrow := HE.out.1.congr (fun j hj => part_end _ _ _ j hj)
        rw [HF.out.1, HF.out.2] at hrow
        refine t3 ib w.heap.size n c cap u kc H _ p K s v a wr (hL.keep HE.out.2 (fun _ _ _ h => h)) (Itm.keep hI HE.out.2 (fun h => h)) hrow hKn hlen hn hs hv hu hdvd hcap (by omega) a1 a2 a3 a4 a5 a6 a7 a8 ?_
        intro e w' h1 h2
        exact HR.out e w' (h1.mono HE.out.2.size) (HE.out.2.trans h2 (fun _ _ h => h))
      go_wp2_with fail
      refine HK9.out _ _ ?_
      exact hfr _ rfl rfl rfl rfl rfl rfl rfl rfl
end Go.Proofs.Ybulkbnbu.Kn
