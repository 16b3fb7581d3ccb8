/-
  The staircase's 'add' (function 30): the sweep.
-/
import Derived.Test.YbulkbnbuTail30
namespace Go.Proofs.Ybulkbnbu.Kn
set_option linter.unusedSimpArgs false
set_option linter.unusedVariables false
open Go.ChangeShapes Go.WideShapes Go.ChangeAt Go.RowKit
open Go.Proofs.Ybulkbnbu.Fl

theorem SD.drewN {B : Nat} {w : World} {b6 hb gs gv gw sz vz cs cv cw L s v : Nat} {X U : Nat → Nat} {xs us sw : List Nat} (h : SD B w b6 hb gs gv gw sz vz cs cv cw L s v X U xs us sw) (n : Nat) : SD B (w.drewN n) b6 hb gs gv gw sz vz cs cv cw L s v X U xs us sw :=
  ⟨⟨h.out.hdr, h.out.rs, h.out.rv, trivial⟩, h.sw, h.it0, h.it1, h.rx, h.ru⟩
def FO (pr : Value) (b6 hb gw sz vz cw L cS cV : Nat) (q p wo la : Nat) (tk : Bool) (sw : List Nat) (wv : Value) (f : Act) : Prop := f.tmps.size = 285 ∧ f.defers = [] ∧ f.tmps[4]?.getD undef = .slice (some ⟨gw, 0, none⟩) sw.length cw ∧ f.tmps[6]?.getD undef = .pointer (some ⟨b6, 0, none⟩) ∧ f.tmps[10]?.getD undef = pr ∧ f.tmps[12]?.getD undef = .slice (some ⟨sz, 0, none⟩) L cS ∧ f.tmps[13]?.getD undef = .slice (some ⟨vz, 0, none⟩) L cV ∧ f.tmps[14]?.getD undef = .int .i64 (L : Int) ∧ f.tmps[16]?.getD undef = .pointer (some ⟨hb, 0, none⟩) ∧ f.tmps[17]?.getD undef = .int .i64 (p : Int) ∧ f.tmps[18]?.getD undef = .float .f64 (W wo) ∧ f.tmps[19]?.getD undef = wv ∧ f.tmps[20]?.getD undef = .float .f64 (W la) ∧ f.tmps[21]?.getD undef = .bool tk ∧ f.tmps[22]?.getD undef = .int .i64 (q : Int)
def Io (pr : Value) (b6 hb gw sz vz cw L cS cV : Nat) (B gs gv cs cv s v : Nat) (X U : Nat → Nat) (st0 : SM) (w0 : World) (m : Nat) (f : Act) (w : World) : Prop :=
  ∃ q p wo wi la tk xs us sw wv, q ≤ L ∧ p ≤ L ∧ m = L - q ∧ sweep X U L s v q st0 = ⟨p, wo, wi, la, tk, xs, us, sw⟩ ∧ FO pr b6 hb gw sz vz cw L cS cV q p wo la tk sw wv f ∧ (tk = true → wv = .float .f64 (W wi) ∧ wi < 4096) ∧ la < 4096 ∧ wo < 4096 ∧
    SD B w b6 hb gs gv gw sz vz cs cv cw L s v X U xs us sw ∧ xs.length + (L - p) + (L - q) ≤ cs ∧ us.length + (L - p) + (L - q) ≤ cv ∧ sw.length + (L - p) + (L - q) ≤ cw ∧ Keeps (ch hb gs gv gw) w0 w

set_option maxRecDepth 100000 in
set_option maxHeartbeats 4000000 in
theorem out_loop {Q : Exit → Act → World → Prop} (pr : Value) (b6 hb gw sz vz cw L cS cV : Nat) (B gs gv cs cv s v : Nat) (X U : Nat → Nat) (wv : Value) (p wo wi la : Nat) (xs us sw : List Nat) (f : Act) (w : World) (D : DD b6 hb gs gv gw sz vz) (hL : L < 4096) (hU : ∀ j, U j + v < 4096) (hX : ∀ j, X j < 4096) (hs : s < 4096)
    (hp : p ≤ L) (hF : FO pr b6 hb gw sz vz cw L cS cV 0 p wo la false sw wv f) (hla : la < 4096) (hwo : wo < 4096) (hS : SD B w b6 hb gs gv gw sz vz cs cv cw L s v X U xs us sw) (k1 : xs.length + (L - p) + L ≤ cs) (k2 : us.length + (L - p) + L ≤ cv) (k3 : sw.length + (L - p) + L ≤ cw)
    (hend : ∀ f' w' p' wo' wi' la' tk' xs' us' sw' wv', sweep X U L s v L ⟨p, wo, wi, la, false, xs, us, sw⟩ = ⟨p', wo', wi', la', tk', xs', us', sw'⟩ → p' ≤ L → FO pr b6 hb gw sz vz cw L cS cV L p' wo' la' tk' sw' wv' f' → SD B w' b6 hb gs gv gw sz vz cs cv cw L s v X U xs' us' sw' →
      xs'.length ≤ cs → us'.length ≤ cv → Keeps (ch hb gs gv gw) w w' → Q (.exit 0) f' w') :
    Code.wp Yba.prog ((Yba.f30.body.bind (blk 0)).getD .skip) Q f w := by
  conv => arg 2; whnf
  obtain ⟨st0, hst0⟩ : ∃ t : SM, t = ⟨p, wo, wi, la, false, xs, us, sw⟩ := ⟨_, rfl⟩
  rw [← hst0] at hend
  refine wp_loop_ghost (Io pr b6 hb gw sz vz cw L cS cV B gs gv cs cv s v X U st0 w) L ⟨0, p, wo, wi, la, false, xs, us, sw, wv, Nat.zero_le _, hp, rfl, hst0, hF, fun h => (by cases h), hla, hwo, hS, k1, k2, k3, Keeps.refl _ _⟩ ?_
  clear hF hla hwo hS k1 k2 k3 hp hst0 f p wo wi la xs us sw wv
  rintro m f w1 ⟨q, p, wo, wi, la, tk, xs, us, sw, wv, hq, hp, rfl, htgt, ⟨hsz, hds, e4, e6, e10, e12, e13, e14, e16, e17, e18, e19, e20, e21, e22⟩, hwi, hla, hwo, hS, k1, k2, k3, hK⟩
  obtain ⟨g, hg⟩ : ∃ g : Nat → Value, ∀ t, f.tmps[t]?.getD undef = g t := ⟨_, fun _ => rfl⟩
  rw [hg] at e4 e6 e10 e12 e13 e14 e16 e17 e18 e19 e20 e21 e22
  rw [lit285 f g hg hsz hds, e4, e6, e10, e12, e13, e14, e16, e17, e18, e19, e20, e21, e22]
  clear hg hsz hds e4 e6 e10 e12 e13 e14 e16 e17 e18 e19 e20 e21 e22
  by_cases hin : q < L
  · have h0 : (0 : Int) ≤ (q : Int) := by omega
    have h1 : (q : Int) < (L : Int) := by omega
    have cx := hS.rx q hin
    have c0 := hS.it0
    have hXq := hX q
    have nxt : ∀ st, outer X U L s v q ⟨p, wo, wi, la, tk, xs, us, sw⟩ = st → sweep X U L s v (q + 1) st0 = st := by
      intro st hst
      simp only [sweep]
      rw [htgt, hst]
    have HN : Hid (_) := nxt
    have HS : Hid (_) := hS
    have HK : Hid (_) := hK
    have HE : Hid (_) := hend
    have HU : Hid (_) := hU
    have HX : Hid (_) := hX
    have HW : Hid (_) := hwi
    clear nxt hS hK hend hU hX htgt hwi
    go_wp2_with fail
    go_quiet (fail)
    rename_i K1 hK1
    refine hK1 _ _ ?_
    clear hK1
    have HS1 : Hid (_) := HS.out.drewN nq
    have HK1 : Hid (_) := HK.out.drewN nq
    clear HS HK cx c0
    generalize w1.drewN nq = w2 at *
    go_wp2_with fail
    refine in_loop pr b6 hb gw sz vz cw L cS cV B gs gv cs cv s v q (X q + s) (xs.length + (L - p)) (us.length + (L - p)) (sw.length + (L - p)) (by omega) (by omega) (by omega) X U wv p wo wi la tk xs us sw _ w2 D hL (fun j => by have := HU.out j; omega) HX.out (by omega) hp ⟨rfl, rfl, rfl, rfl, rfl, rfl, rfl, rfl, rfl, rfl, rfl, rfl, rfl, rfl, rfl, (by first | rfl | simp)⟩ HW.out hla hwo HS1.out (Nat.le_refl _) (Nat.le_refl _) (Nat.le_refl _) ?_
    intro f2 w3 p2 wo2 wi2 la2 tk2 xs2 us2 sw2 hinn hp2 hF2 hla2 hwo2 hS2 j1 j2 j3 hK2
    have HK3 : Hid (_) := HK1.out.trans hK2 (fun _ _ h => h)
    clear hK2 HK1 HS1 HW
    have hinn' : outer X U L s v q ⟨p, wo, wi, la, tk, xs, us, sw⟩ = outB (X q + s) (U q + v) (hitB X U L (X q + s) ⟨p2, wo2, wi2, la2, tk2, xs2, us2, sw2⟩) := by
      unfold outer; rw [hinn]
    clear hinn
    have HI : Hid (_) := hinn'
    clear hinn'
    obtain ⟨hsz, hds, e4, e6, e10, e12, e13, e14, e16, e17, e18, e19, e20, e21, e22, e23⟩ := hF2
    obtain ⟨g2, hg2⟩ : ∃ g2 : Nat → Value, ∀ t, f2.tmps[t]?.getD undef = g2 t := ⟨_, fun _ => rfl⟩
    rw [hg2] at e4 e6 e10 e12 e13 e14 e16 e17 e18 e19 e20 e21 e22 e23
    rw [lit285 f2 g2 hg2 hsz hds, e4, e6, e10, e12, e13, e14, e16, e17, e18, e19, e20, e21, e22, e23]
    clear hg2 hsz hds e4 e6 e10 e12 e13 e14 e16 e17 e18 e19 e20 e21 e22 e23
    have c0 := hS2.it0
    have c1 := hS2.it1
    have cu := hS2.ru q hin
    have hadd := fun w => addF w (U q) v (by have := HU.out q; omega)
    by_cases hit : p2 < L ∧ X p2 = X q + s
    · obtain ⟨hpl, hxe⟩ := hit
      have h2 : (0 : Int) ≤ (p2 : Int) := by omega
      have h3 : (p2 : Int) < (L : Int) := by omega
      have cx2 := hS2.rx p2 hpl
      have cu2 := hS2.ru p2 hpl
      rw [hxe] at cx2
      have HS2 : Hid (_) := hS2
      have hB : hitB X U L (X q + s) ⟨p2, wo2, wi2, la2, tk2, xs2, us2, sw2⟩ = ⟨p2 + 1, U p2, wi2, la2, tk2, xs2, us2, sw2⟩ := by
        unfold hitB; rw [if_pos ⟨hpl, hxe⟩]
      have HB : Hid (_) := hB
      clear hS2 hB
      go_wp2_with fail
      go_quiet (fail)
      rename_i K1 hK1
      refine hK1 _ _ ?_
      clear hK1
      have HS3 : Hid (_) := HS2.out.drewN nq
      have HK4 : Hid (_) := HK3.out.drewN nq
      clear HS2 HK3
      generalize w3.drewN nq = w4 at *
      refine tail30 pr b6 hb gw sz vz cw L cS cV B gs gv cs cv s v q (X q + s) X U (p2 + 1) (U p2) (U q + v) wi2 la2 tk2 xs2 us2 sw2 _ w4 D (by have := HU.out q; omega) (by first | omega | (have := HU.out p2; omega)) hla2 ⟨rfl, rfl, rfl, rfl, rfl, rfl, rfl, rfl, rfl, (by first | rfl | go_num), rfl, rfl, rfl, rfl, rfl, (by first | rfl | simp)⟩ HS3.out (by omega) (by omega) (by omega) ?_
      intro f3 w5 tk3 la3 xs3 us3 sw3 hob hF3 hla3 hS5 i1 i2 i3 hK5
      have HK6 : Hid (_) := HK4.out.trans hK5 (fun _ _ h => h)
      have hnext : sweep X U L s v (q + 1) st0 = ⟨p2 + 1, U p2, U q + v, la3, tk3, xs3, us3, sw3⟩ := HN.out _ (HI.out.trans (by rw [HB.out]; exact hob))
      clear hK5 HK4
      obtain ⟨hsz, hds, e4, e6, e10, e12, e13, e14, e16, e17, e18, e19, e20, e21, e22, e23⟩ := hF3
      obtain ⟨g3, hg3⟩ : ∃ g3 : Nat → Value, ∀ t, f3.tmps[t]?.getD undef = g3 t := ⟨_, fun _ => rfl⟩
      rw [hg3] at e4 e6 e10 e12 e13 e14 e16 e17 e18 e19 e20 e21 e22 e23
      rw [lit285 f3 g3 hg3 hsz hds, e4, e6, e10, e12, e13, e14, e16, e17, e18, e19, e20, e21, e22, e23]
      clear hg3 hsz hds e4 e6 e10 e12 e13 e14 e16 e17 e18 e19 e20 e21 e22 e23
      have HS5 : Hid (_) := hS5
      have HNX : Hid (_) := hnext
      clear hS5 hnext hob
      go_wp2_with fail
      exact ⟨L - (q + 1), by omega, q + 1, p2 + 1, U p2, U q + v, la3, tk3, xs3, us3, sw3, _, by omega, by omega, rfl, HNX.out, ⟨rfl, rfl, rfl, rfl, rfl, rfl, rfl, rfl, rfl, rfl, rfl, rfl, rfl, rfl, (by first | rfl | go_num)⟩, fun _ => ⟨rfl, HU.out q⟩, hla3, (by first | omega | (have := HU.out p2; omega)), HS5.out, by omega, by omega, by omega, HK6.out⟩
    · have hB : hitB X U L (X q + s) ⟨p2, wo2, wi2, la2, tk2, xs2, us2, sw2⟩ = ⟨p2, wo2, wi2, la2, tk2, xs2, us2, sw2⟩ := by
        unfold hitB; rw [if_neg hit]
      have HB : Hid (_) := hB
      have HS2 : Hid (_) := hS2
      have cxx := fun h => hS2.rx p2 h
      clear hB hS2
      by_cases hpl : p2 < L
      · have h2 : (0 : Int) ≤ (p2 : Int) := by omega
        have h3 : (p2 : Int) < (L : Int) := by omega
        have cx2 := cxx hpl
        have h4 : ¬ ((X p2 : Nat) : Int) = ((X q + s : Nat) : Int) := fun h => hit ⟨hpl, by omega⟩
        clear cxx
        go_wp2_with fail
        go_quiet (fail)
        rename_i K1 hK1
        refine hK1 _ _ ?_
        clear hK1
        have HS3 : Hid (_) := HS2.out.drewN nq
        have HK4 : Hid (_) := HK3.out.drewN nq
        clear HS2 HK3
        generalize w3.drewN nq = w4 at *
        refine tail30 pr b6 hb gw sz vz cw L cS cV B gs gv cs cv s v q (X q + s) X U (p2) (wo2) (U q + v) wi2 la2 tk2 xs2 us2 sw2 _ w4 D (by have := HU.out q; omega) (by first | omega | (have := HU.out p2; omega)) hla2 ⟨rfl, rfl, rfl, rfl, rfl, rfl, rfl, rfl, rfl, (by first | rfl | go_num), rfl, rfl, rfl, rfl, rfl, (by first | rfl | simp)⟩ HS3.out (by omega) (by omega) (by omega) ?_
        intro f3 w5 tk3 la3 xs3 us3 sw3 hob hF3 hla3 hS5 i1 i2 i3 hK5
        have HK6 : Hid (_) := HK4.out.trans hK5 (fun _ _ h => h)
        have hnext : sweep X U L s v (q + 1) st0 = ⟨p2, wo2, U q + v, la3, tk3, xs3, us3, sw3⟩ := HN.out _ (HI.out.trans (by rw [HB.out]; exact hob))
        clear hK5 HK4
        obtain ⟨hsz, hds, e4, e6, e10, e12, e13, e14, e16, e17, e18, e19, e20, e21, e22, e23⟩ := hF3
        obtain ⟨g3, hg3⟩ : ∃ g3 : Nat → Value, ∀ t, f3.tmps[t]?.getD undef = g3 t := ⟨_, fun _ => rfl⟩
        rw [hg3] at e4 e6 e10 e12 e13 e14 e16 e17 e18 e19 e20 e21 e22 e23
        rw [lit285 f3 g3 hg3 hsz hds, e4, e6, e10, e12, e13, e14, e16, e17, e18, e19, e20, e21, e22, e23]
        clear hg3 hsz hds e4 e6 e10 e12 e13 e14 e16 e17 e18 e19 e20 e21 e22 e23
        have HS5 : Hid (_) := hS5
        have HNX : Hid (_) := hnext
        clear hS5 hnext hob
        go_wp2_with fail
        exact ⟨L - (q + 1), by omega, q + 1, p2, wo2, U q + v, la3, tk3, xs3, us3, sw3, _, by omega, by omega, rfl, HNX.out, ⟨rfl, rfl, rfl, rfl, rfl, rfl, rfl, rfl, rfl, rfl, rfl, rfl, rfl, rfl, (by first | rfl | go_num)⟩, fun _ => ⟨rfl, HU.out q⟩, hla3, (by first | omega | (have := HU.out p2; omega)), HS5.out, by omega, by omega, by omega, HK6.out⟩
      · have h3 : ¬ (p2 : Int) < (L : Int) := by omega
        clear cxx
        go_wp2_with fail
        go_quiet (fail)
        rename_i K1 hK1
        refine hK1 _ _ ?_
        clear hK1
        have HS3 : Hid (_) := HS2.out.drewN nq
        have HK4 : Hid (_) := HK3.out.drewN nq
        clear HS2 HK3
        generalize w3.drewN nq = w4 at *
        refine tail30 pr b6 hb gw sz vz cw L cS cV B gs gv cs cv s v q (X q + s) X U (p2) (wo2) (U q + v) wi2 la2 tk2 xs2 us2 sw2 _ w4 D (by have := HU.out q; omega) (by first | omega | (have := HU.out p2; omega)) hla2 ⟨rfl, rfl, rfl, rfl, rfl, rfl, rfl, rfl, rfl, (by first | rfl | go_num), rfl, rfl, rfl, rfl, rfl, (by first | rfl | simp)⟩ HS3.out (by omega) (by omega) (by omega) ?_
        intro f3 w5 tk3 la3 xs3 us3 sw3 hob hF3 hla3 hS5 i1 i2 i3 hK5
        have HK6 : Hid (_) := HK4.out.trans hK5 (fun _ _ h => h)
        have hnext : sweep X U L s v (q + 1) st0 = ⟨p2, wo2, U q + v, la3, tk3, xs3, us3, sw3⟩ := HN.out _ (HI.out.trans (by rw [HB.out]; exact hob))
        clear hK5 HK4
        obtain ⟨hsz, hds, e4, e6, e10, e12, e13, e14, e16, e17, e18, e19, e20, e21, e22, e23⟩ := hF3
        obtain ⟨g3, hg3⟩ : ∃ g3 : Nat → Value, ∀ t, f3.tmps[t]?.getD undef = g3 t := ⟨_, fun _ => rfl⟩
        rw [hg3] at e4 e6 e10 e12 e13 e14 e16 e17 e18 e19 e20 e21 e22 e23
        rw [lit285 f3 g3 hg3 hsz hds, e4, e6, e10, e12, e13, e14, e16, e17, e18, e19, e20, e21, e22, e23]
        clear hg3 hsz hds e4 e6 e10 e12 e13 e14 e16 e17 e18 e19 e20 e21 e22 e23
        have HS5 : Hid (_) := hS5
        have HNX : Hid (_) := hnext
        clear hS5 hnext hob
        go_wp2_with fail
        exact ⟨L - (q + 1), by omega, q + 1, p2, wo2, U q + v, la3, tk3, xs3, us3, sw3, _, by omega, by omega, rfl, HNX.out, ⟨rfl, rfl, rfl, rfl, rfl, rfl, rfl, rfl, rfl, rfl, rfl, rfl, rfl, rfl, (by first | rfl | go_num)⟩, fun _ => ⟨rfl, HU.out q⟩, hla3, (by first | omega | (have := HU.out p2; omega)), HS5.out, by omega, by omega, by omega, HK6.out⟩
  · obtain rfl : q = L := by omega
    have h1 : ¬ (q : Int) < (q : Int) := by omega
    have HE : Hid (_) := fun f' hF' => hend f' w1 p wo wi la tk xs us sw wv htgt hp hF' hS (by omega) (by omega) hK
    clear hend hS hK htgt
    go_wp2_with fail
    exact HE.out _ ⟨rfl, rfl, rfl, rfl, rfl, rfl, rfl, rfl, rfl, rfl, rfl, rfl, rfl, rfl, rfl⟩
end Go.Proofs.Ybulkbnbu.Kn
