/-
  Best (function 7): the contenders, their unit.
-/
import Derived.Test.YbulkbnbuT2
namespace Go.Proofs.Ybulkbnbu.Kn
set_option linter.unusedSimpArgs false
set_option linter.unusedVariables false
open Go.ChangeShapes Go.WideShapes Go.ChangeAt Go.RowKit
open Go.Proofs.Ybulkbnbu.Fl Go.Proofs.Ybulkbnbu.Pl Go.Sort
attribute [local go_sem] run_store_float

/-- The greatest common divisor of the first sizes. -/
def ug (s : Nat → Nat) (K : List Nat) : Nat → Nat
  | 0 => 0
  | k + 1 => Nat.gcd (ug s K k) (s (K.getD k 0))
theorem ug_dvd (s : Nat → Nat) (K : List Nat) (k j : Nat) (h : j < k) : ug s K k ∣ s (K.getD j 0) := by
  induction k with
  | zero => omega
  | succ k ih =>
    simp only [ug]
    by_cases e : j = k
    · subst e; exact Nat.gcd_dvd_right _ _
    · exact Nat.dvd_trans (Nat.gcd_dvd_left _ _) (ih (by omega))
theorem ug_bd (s : Nat → Nat) (K : List Nat) (hs : ∀ i, 1 ≤ s i ∧ s i ≤ 7) (k : Nat) : ug s K k ≤ 7 ∧ (0 < k → 0 < ug s K k) := by
  cases k with
  | zero => simp [ug]
  | succ k =>
    have h := hs (K.getD k 0)
    simp only [ug]
    exact ⟨Nat.le_trans (Nat.gcd_le_right _ (by omega)) h.2, fun _ => Nat.gcd_pos_of_pos_right _ (by omega)⟩

set_option maxRecDepth 100000 in
set_option maxHeartbeats 8000000 in
theorem t1 {Rr : Ending → World → Prop} (ib n c cap : Nat) (s v : Nat → Nat) (f : Act) (w : World) (hI : Itm w ib n s v) (hib : ib < w.heap.size) (hn0 : 0 < n) (hn : n ≤ 12) (hs : ∀ i, 1 ≤ s i ∧ s i ≤ 7) (hv : ∀ i, v i ≤ 9) (hcap : cap ≤ 47)
    (hsz : f.tmps.size = 222) (hds : f.defers = []) (e0 : f.tmps[0]?.getD undef = .slice (some ⟨ib, 0, none⟩) n c) (e1 : f.tmps[1]?.getD undef = .int .i64 (cap : Int)) (e6 : f.tmps[6]?.getD undef = .int .i64 (-1))
    (hR : ∀ e w' got C, BestOk s v n cap got C → Bested got C w.heap.size e w' → Keeps (fun _ => False) w w' → Rr e w') :
    Code.wp Yba.prog ((Yba.f7.body.bind (at_ 10)).getD .skip) (bodyPost Yba.prog Yba.f7 Rr) f w := by
  conv => arg 2; whnf
  obtain ⟨g, hg⟩ : ∃ g : Nat → Value, ∀ t, f.tmps[t]?.getD undef = g t := ⟨_, fun _ => rfl⟩
  rw [hg] at e0 e1 e6
  rw [lit222 f g hg hsz hds, e0, e1, e6]
  clear hg hsz hds e0 e1 e6

  have hcon := con_any ib n c cap s v w hn0 hn hs (fun i => by have := hv i; omega) hcap hib hI
  have hbest := fun u (hu : 0 < u) hd => contend s v (plc (srt (n := n) s v)) n cap (kpt (plc (srt (n := n) s v)) s cap n) u (fun i => (hs i).1) (srt_perm s v) (srt_ord s v) (kpt_perm _ _ _ _) (kpt_sort _ _ _ _ (srt_perm s v)) hu hd
  have hkl : (kl (plc (srt (n := n) s v)) s cap n).length ≤ n := by unfold kl; simp; exact Nat.le_trans (List.length_filter_le _ _) (by simp)
  have hKl : (kpt (plc (srt (n := n) s v)) s cap n).length ≤ n := by rw [(kpt_perm _ _ _ _).length_eq]; exact hkl
  have hKn : ∀ x ∈ kpt (plc (srt (n := n) s v)) s cap n, x < n := fun x hx => by
    have h1 := (kpt_perm _ _ _ _).mem_iff.1 hx
    simp only [kl, List.mem_map, List.mem_filter, List.mem_range] at h1
    obtain ⟨a, ⟨ha, _⟩, e⟩ := h1
    have h3 := (srt_perm (n := n) s v).mem_iff.1 (List.mem_map.2 ⟨a, List.mem_range.2 ha, e⟩)
    exact List.mem_range.1 h3
  clear hkl
  generalize kpt (plc (srt (n := n) s v)) s cap n = K at *
  have HR : Hid (_) := hR
  have HC : Hid (_) := hcon
  have H0 : Hid (_) := And.intro hI (And.intro hbest (And.intro hKn (And.intro hs hv)))
  clear hR hcon hI hbest hKn hs hv
  by_cases hK0 : K = []
  · subst hK0
    go_wp2_with (go_at_call 9; refine Calls.mono HC.out ?_; rintro e w1 ⟨p, kc, rfl, hL1, hk1⟩; have H1 : Hid (_) := And.intro hL1 hk1; clear hL1 hk1)
    refine HR.out _ _ _ _ (H0.out.2.1 1 (by omega) (fun j hj => by simp at hj)) ?_ H1.out.2
    simp only [List.length_nil, F, R, List.map_nil]
    exact ⟨none, 0, rfl, fun h => absurd rfl h⟩
  · have hKp : 0 < K.length := List.length_pos_iff.2 hK0
    have hKp' : ((K.length : Int) == 0) = false := by simp; omega
    go_wp2_with (go_at_call 9; refine Calls.mono HC.out ?_; rintro e w1 ⟨p, kc, rfl, hL1, hk1⟩; have H1 : Hid (_) := And.intro hL1 hk1; clear hL1 hk1)
    rename_i K9 hK9
    have HK9 : Hid (_) := hK9
    clear hK9 HC
    obtain ⟨ufn, hufn⟩ : ∃ uf : Nat → Nat, uf = ug s K := ⟨_, rfl⟩
    have HU : Hid (_) := hufn
    clear hufn
    go_loopw [13, 15, 77] (fun uv _ iv wr => ∃ k : Nat, k ≤ K.length ∧ iv = .int .i64 (k : Int) ∧ uv = .int .i64 (ufn k : Int) ∧ Keeps (fun _ => False) w1 wr) (fun _ _ iv _ => K.length - (intOf iv).toNat)
    case atStart => exact ⟨0, Nat.zero_le _, rfl, by rw [HU.out]; rfl, Keeps.refl _ _⟩
    case round =>
      obtain ⟨k, hk, rfl, rfl, hkp⟩ := hrel
      obtain ⟨hI, hbest, hKn, hs, hv⟩ := H0.out
      obtain ⟨hL1, hk1⟩ := H1.out
      by_cases hlt : k < K.length
      · obtain ⟨g, rfl, hgH, hgl, hgc⟩ := hL1 hK0
        have hkx : K[k]? = some (K.getD k 0) := by rw [List.getD_eq_getElem?_getD, List.getElem?_eq_getElem (by omega)]; rfl
        have cK := hkp.cell (hgc k _ hkx) (fun h => h)
        have hxn : K.getD k 0 < n := hKn _ (List.mem_of_getElem? hkx)
        have cI := hkp.cell (hk1.cell (hI (K.getD k 0) hxn).1 (fun h => h)) (fun h => h)
        have hsb := hs (K.getD k 0)
        have hub := (ug_bd s K hs k).1
        rw [← HU.out] at hub
        have hnext : ufn (k + 1) = Nat.gcd (ufn k) (s (K.getD k 0)) := by rw [HU.out]; rfl
        have b1 : (k : Int) < (K.length : Int) := by omega
        have b2 : (0 : Int) ≤ (k : Int) := by omega
        have b3 : (0 : Int) ≤ ((K.getD k 0 : Nat) : Int) := by omega
        have b4 : ((K.getD k 0 : Nat) : Int) < (n : Int) := by omega
        have HW : Hid (_) := And.intro hnext hkp
        clear hnext hkp hI hbest hKn hs hv hL1 hk1 hgc hkx
        generalize K.getD k 0 = x at *
        generalize s x = sx at *
        generalize ufn k = uk at *
        have hG := fun w => gcd_any uk sx w (by omega) (by omega)
        have HG : Hid (_) := hG
        clear hG
        go_wp2_with (go_at_call 10; refine Calls.mono (HG.out _) ?_; rintro e w2 ⟨rfl, hk2⟩; have H2 : Hid (_) := hk2; clear hk2)
        go_roundw
        case rel => exact ⟨k + 1, by omega, by go_num, by rw [HW.out.1], HW.out.2.trans H2.out (fun _ _ h => h)⟩
        case measure => simp [intOf]; omega
      · obtain rfl : k = K.length := by omega
        have b1 : ¬ (K.length : Int) < (K.length : Int) := by omega
        have hub := ug_bd s K hs K.length
        have HE : Hid (_) := And.intro hkp hub
        clear hkp hI hbest hKn hs hv hL1 hk1 hub
        have hfr : ∀ (a : Act), a.tmps.size = 222 → a.defers = [] → a.tmps[0]?.getD undef = .slice (some ⟨ib, 0, none⟩) n c → a.tmps[1]?.getD undef = .int .i64 (cap : Int) → a.tmps[12]?.getD undef = .slice p K.length kc → a.tmps[13]?.getD undef = .int .i64 (ufn K.length : Int) → Code.wp Yba.prog ((Yba.f7.body.bind (from_ 27)).getD .skip) (bodyPost Yba.prog Yba.f7 Rr) a wr := fun a a1 a2 a3 a4 a5 a6 => by
          obtain ⟨hI, hbest, hKn, hs, hv⟩ := H0.out
          obtain ⟨hL1, hk1⟩ := H1.out
          have hkk := hk1.trans HE.out.1 (fun _ _ h => h)
          have hpos := HE.out.2.2 hKp
          rw [← HU.out] at hpos
          have hdvd : ∀ j, j < K.length → ufn K.length ∣ s (K.getD j 0) := fun j hj => by rw [HU.out]; exact ug_dvd s K K.length j hj
          refine t2 ib n c cap (ufn K.length) kc w.heap.size p K s v a wr (hL1.keep HE.out.1 (fun _ _ _ h => h)) (Itm.keep hI hkk (fun h => h)) (by have := hkk.size; omega) hKn (by omega) hn hs hv hpos hdvd hcap a1 a2 a3 a4 a5 a6 ?_
          intro e w' h1 h2
          exact HR.out e w' _ _ (hbest _ hpos hdvd) (h1.mono (by have := hkk.size; omega)) (hkk.trans h2 (fun _ _ h => h))
        go_wp2_with fail
        refine HK9.out _ _ ?_
        exact hfr _ rfl rfl rfl rfl rfl rfl
end Go.Proofs.Ybulkbnbu.Kn
