/-
  Best (function 7): the curve is made, the scaled items are added.
-/
import Derived.Test.YbulkbnbuT4
namespace Go.Proofs.Ybulkbnbu.Kn
set_option linter.unusedSimpArgs false
set_option linter.unusedVariables false
open Go.ChangeShapes Go.WideShapes Go.ChangeAt Go.RowKit
open Go.Proofs.Ybulkbnbu.Fl Go.Proofs.Ybulkbnbu.Pl Go.Sort
attribute [local go_sem] run_store_float

theorem Bested.mono {got : Nat} {C : List Nat} {H H' : Nat} {e : Ending} {w' : World} (h : Bested got C H e w') (hH : H' ≤ H) : Bested got C H' e w' := by
  obtain ⟨p, c, h1, h2⟩ := h
  refine ⟨p, c, h1, fun hC => ?_⟩
  obtain ⟨g, g1, g2, g3, g4⟩ := h2 hC
  exact ⟨g, g1, by omega, g3, g4⟩

set_option maxRecDepth 100000 in
theorem big_all : ∀ t, t < 200 → FloatKind.f64.format.order (W t) 9214364837600034815 = some .lt := by decide +kernel
theorem big_lt (t : Nat) (h : t < 200) : FloatKind.f64.format.order (W t) 9214364837600034815 = some .lt := big_all t h
set_option maxRecDepth 100000 in
set_option maxHeartbeats 8000000 in
theorem t3 {Rr : Ending → World → Prop} (ib gs n c cap u kc H tot : Nat) (p : Option Addr) (K : List Nat) (s v : Nat → Nat) (f : Act) (w : World) (hL : Lst w H p K) (hI : Itm w ib n s v) (hG : w.rowIs gs 28 (K.length * 2) (itemF (fun j => ((s (K.getD j 0) / u : Nat) : Int)) (fun j => v (K.getD j 0)))) (hKn : ∀ x ∈ K, x < n) (hlen : K.length ≤ 12) (hn : n ≤ 12) (hs : ∀ i, 1 ≤ s i ∧ s i ≤ 7) (hv : ∀ i, v i ≤ 9) (hu : 0 < u) (hdvd : ∀ j, j < K.length → u ∣ s (K.getD j 0)) (hcap : cap ≤ 47) (htot : tot < 200)
    (hsz : f.tmps.size = 222) (hds : f.defers = []) (e0 : f.tmps[0]?.getD undef = .slice (some ⟨ib, 0, none⟩) n c) (e1 : f.tmps[1]?.getD undef = .int .i64 (cap : Int)) (e12 : f.tmps[12]?.getD undef = .slice p K.length kc) (e13 : f.tmps[13]?.getD undef = .int .i64 (u : Int)) (e16 : f.tmps[16]?.getD undef = .slice (some ⟨gs, 0, none⟩) K.length K.length) (e17 : f.tmps[17]?.getD undef = .float .f64 (W tot))
    (hR : ∀ e w', Bested (F (fun j => s (K.getD j 0) / u) (fun j => v (K.getD j 0)) K.length (cap / u)) ((R (fun j => s (K.getD j 0) / u) (fun j => v (K.getD j 0)) K.length (cap / u)).map fun j => K.getD j 0) w.heap.size e w' → Keeps (fun _ => False) w w' → Rr e w') :
    Code.wp Yba.prog ((Yba.f7.body.bind (from_ 35)).getD .skip) (bodyPost Yba.prog Yba.f7 Rr) f w := by
  conv => arg 2; whnf
  obtain ⟨g, hg⟩ : ∃ g : Nat → Value, ∀ t, f.tmps[t]?.getD undef = g t := ⟨_, fun _ => rfl⟩
  rw [hg] at e0 e1 e12 e13 e16 e17
  rw [lit222 f g hg hsz hds, e0, e1, e12, e13, e16, e17]
  clear hg hsz hds e0 e1 e12 e13 e16 e17

  have hdv : Int.tdiv (cap : Int) (u : Int) = ((cap / u : Nat) : Int) := by rw [Int.tdiv_eq_ediv_of_nonneg (by omega)]; simp
  have hdb : cap / u ≤ 47 := Nat.le_trans (Nat.div_le_self _ _) hcap
  have hu0 : ¬ (u : Int) = 0 := by omega
  have hbig := big_lt tot htot
  have hsb : ∀ j, j < K.length → 1 ≤ s (K.getD j 0) / u ∧ s (K.getD j 0) / u ≤ 7 := fun j hj => by
    have h1 := hs (K.getD j 0)
    refine ⟨?_, Nat.le_trans (Nat.div_le_self _ _) h1.2⟩
    rw [Nat.le_div_iff_mul_le hu, Nat.one_mul]
    exact Nat.le_of_dvd (by omega) (hdvd j hj)
  have hnew := new_any (cap / u) K.length (fun j => s (K.getD j 0) / u) (fun j => v (K.getD j 0)) w
  have HR : Hid (_) := hR
  have HN : Hid (_) := hnew
  have H0 : Hid (_) := And.intro hL (And.intro hI (And.intro hG (And.intro hKn (And.intro hs (And.intro hv hsb)))))
  clear hR hL hI hG hKn hs hsb hv hnew hdvd
  generalize hroom : cap / u = room at *
  go_wp2_with (go_at_call 11; refine Calls.mono HN.out ?_; rintro e w1 ⟨cb, rfl, hC1, hK1⟩; have H1 : Hid (_) := And.intro hC1 hK1; clear hC1 hK1)
  rename_i K9 hK9
  have HK9 : Hid (_) := hK9
  clear hK9
  go_loopw [25, 26, 133] (fun _ _ iv wr => ∃ k : Nat, k ≤ K.length ∧ iv = .int .i64 (k : Int) ∧ CV w.heap.size cb room (K.length - k) k (fun j => s (K.getD j 0) / u) (fun j => v (K.getD j 0)) wr ∧ Keeps (fun _ => False) w wr) (fun _ _ iv _ => K.length - (intOf iv).toNat)
  case atStart => exact ⟨0, Nat.zero_le _, rfl, H1.out.1, H1.out.2⟩
  case round =>
    obtain ⟨k, hk, rfl, hC, hkp⟩ := hrel
    obtain ⟨hL, hI, hG, hKn, hs, hv, hsb⟩ := H0.out
    clear H1
    by_cases hlt : k < K.length
    · have c0 := hkp.cell (hG.cell (i := k * 2) (by omega)) (fun h => h)
      have c1 := hkp.cell (hG.cell (i := k * 2 + 1) (by omega)) (fun h => h)
      rw [item_at0] at c0
      rw [item_at1] at c1
      have b1 : (k : Int) < (K.length : Int) := by omega
      have b2 : (0 : Int) ≤ (k : Int) := by omega
      obtain ⟨sb1, sb7⟩ := hsb k hlt
      have hsf : (fun j => s (K.getD j 0) / u) k = s (K.getD k 0) / u := rfl
      have hvf : (fun j => v (K.getD j 0)) k = v (K.getD k 0) := rfl
      have hadd := fun (o : Obj) => add_any w.heap.size cb room (K.length - (k + 1)) k (s (K.getD k 0) / u) (v (K.getD k 0)) (fun j => s (K.getD j 0) / u) (fun j => v (K.getD j 0)) (wr.alloc o) (by rw [show K.length - (k + 1) + 1 = K.length - k by omega]; exact hC.keep ((Keeps.refl _ _).alloc _)) hdb (by omega) (by omega) hsf hvf sb1 sb7 (fun i => hv _)
      have hdue := fun w' (h : CV w.heap.size cb room (K.length - (k + 1)) (k + 1) (fun j => s (K.getD j 0) / u) (fun j => v (K.getD j 0)) w') => due_any _ _ _ _ _ _ _ w' h
      have HA : Hid (_) := And.intro hadd (And.intro hdue hkp)
      clear hadd hdue hkp hC hL hI hG hKn hs hv hsb hsf hvf
      generalize s (K.getD k 0) / u = ss at *
      generalize v (K.getD k 0) = vv at *
      go_wp2_with (first | (go_at_call 12; refine Calls.mono (HA.out.1 _) ?_; rintro e w2 ⟨rfl, hC2, hk2⟩; have H2 : Hid (_) := And.intro hC2 hk2; clear hC2 hk2) | (go_at_call 13; refine Calls.mono (HA.out.2.1 _ H2.out.1) ?_; rintro e w3 ⟨rfl, hk3⟩; have H3 : Hid (_) := hk3; clear hk3))
      go_roundw
      case rel => exact ⟨k + 1, by omega, by go_num, H2.out.1.keep (H3.out.mono (fun _ _ h => h.elim)), ((HA.out.2.2.alloc _).trans H2.out.2 (fun k hk h => absurd h (by omega))).trans H3.out (fun _ _ h => h)⟩
      case measure => simp [intOf]; omega
    · obtain rfl : k = K.length := by omega
      have b1 : ¬ (K.length : Int) < (K.length : Int) := by omega
      have HE : Hid (_) := And.intro hC hkp
      clear hC hkp hL hI hG hKn hs hv hsb
      have hfr : ∀ (a : Act), a.tmps.size = 222 → a.defers = [] → a.tmps[0]?.getD undef = .slice (some ⟨ib, 0, none⟩) n c → a.tmps[1]?.getD undef = .int .i64 (cap : Int) → a.tmps[12]?.getD undef = .slice p K.length kc → a.tmps[13]?.getD undef = .int .i64 (u : Int) → a.tmps[24]?.getD undef = .pointer (some ⟨cb, 0, none⟩) → Code.wp Yba.prog ((Yba.f7.body.bind (from_ 53)).getD .skip) (bodyPost Yba.prog Yba.f7 Rr) a wr := fun a a1 a2 a3 a4 a5 a6 a7 => by
        obtain ⟨hL, hI, hG, hKn, hs, hv, hsb⟩ := H0.out
        have hC := HE.out.1
        rw [Nat.sub_self, ← hroom] at hC
        refine t4 w.heap.size cb ib n c cap u kc H p K s v a wr (hL.keep HE.out.2 (fun _ _ _ h => h)) (Itm.keep hI HE.out.2 (fun h => h)) hC hKn hlen hn hs hu hcap a1 a2 a3 a4 a5 a6 a7 ?_
        intro e w' h1 h2
        refine HR.out e w' ?_ (HE.out.2.trans h2 (fun _ _ h => h))
        rw [← hroom]
        exact h1.mono HE.out.2.size
      go_wp2_with fail
      refine HK9.out _ _ ?_
      exact hfr _ rfl rfl rfl rfl rfl rfl rfl
end Go.Proofs.Ybulkbnbu.Kn
