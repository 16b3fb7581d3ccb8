/-
  The staircase's 'add' (function 30): the inner loop of its sweep.
-/
import Derived.Test.YbulkbnbuSm
namespace Go.Proofs.Ybulkbnbu.Kn
set_option linter.unusedSimpArgs false
set_option linter.unusedVariables false
open Go.ChangeShapes Go.WideShapes Go.ChangeAt Go.RowKit
open Go.Proofs.Ybulkbnbu.Fl

def FI (pr : Value) (b6 hb gw sz vz cw L cS cV : Nat) (q c : Nat) (p wo la : Nat) (tk : Bool) (sw : List Nat) (wv : Value) (f : Act) : Prop := f.tmps.size = 285 ∧ f.defers = [] ∧ f.tmps[4]?.getD undef = .slice (some ⟨gw, 0, none⟩) sw.length cw ∧ f.tmps[6]?.getD undef = .pointer (some ⟨b6, 0, none⟩) ∧ f.tmps[10]?.getD undef = pr ∧ f.tmps[12]?.getD undef = .slice (some ⟨sz, 0, none⟩) L cS ∧ f.tmps[13]?.getD undef = .slice (some ⟨vz, 0, none⟩) L cV ∧ f.tmps[14]?.getD undef = .int .i64 (L : Int) ∧ f.tmps[16]?.getD undef = .pointer (some ⟨hb, 0, none⟩) ∧ f.tmps[17]?.getD undef = .int .i64 (p : Int) ∧ f.tmps[18]?.getD undef = .float .f64 (W wo) ∧ f.tmps[19]?.getD undef = wv ∧ f.tmps[20]?.getD undef = .float .f64 (W la) ∧ f.tmps[21]?.getD undef = .bool tk ∧ f.tmps[22]?.getD undef = .int .i64 (q : Int) ∧ f.tmps[23]?.getD undef = .int .i64 (c : Int)
def Ii (pr : Value) (b6 hb gw sz vz cw L cS cV : Nat) (B gs gv cs cv s v q c N1 N2 N3 : Nat) (X U : Nat → Nat) (wv : Value) (w0 : World) (tgt : SM) (m : Nat) (f : Act) (w : World) : Prop :=
  ∃ p wo wi la tk xs us sw, p ≤ L ∧ m = L - p ∧ inner X U L c (L - p) ⟨p, wo, wi, la, tk, xs, us, sw⟩ = tgt ∧ FI pr b6 hb gw sz vz cw L cS cV q c p wo la tk sw wv f ∧ (tk = true → wv = .float .f64 (W wi) ∧ wi < 4096) ∧ la < 4096 ∧ wo < 4096 ∧
    SD B w b6 hb gs gv gw sz vz cs cv cw L s v X U xs us sw ∧ xs.length + (L - p) ≤ N1 ∧ us.length + (L - p) ≤ N2 ∧ sw.length + (L - p) ≤ N3 ∧ Keeps (ch hb gs gv gw) w0 w

set_option maxRecDepth 100000 in
set_option maxHeartbeats 4000000 in
theorem in_loop {Q : Exit → Act → World → Prop} (pr : Value) (b6 hb gw sz vz cw L cS cV : Nat) (B gs gv cs cv s v q c N1 N2 N3 : Nat) (n1 : N1 ≤ cs) (n2 : N2 ≤ cv) (n3 : N3 ≤ cw) (X U : Nat → Nat) (wv : Value) (p wo wi la : Nat) (tk : Bool) (xs us sw : List Nat) (f : Act) (w : World) (D : DD b6 hb gs gv gw sz vz) (hL : L < 4096) (hU : ∀ j, U j < 4096) (hX : ∀ j, X j < 4096) (hc : c < 10000)
    (hp : p ≤ L) (hF : FI pr b6 hb gw sz vz cw L cS cV q c p wo la tk sw wv f) (hwi : tk = true → wv = .float .f64 (W wi) ∧ wi < 4096) (hla : la < 4096) (hwo : wo < 4096) (hS : SD B w b6 hb gs gv gw sz vz cs cv cw L s v X U xs us sw) (k1 : xs.length + (L - p) ≤ N1) (k2 : us.length + (L - p) ≤ N2) (k3 : sw.length + (L - p) ≤ N3)
    (hend : ∀ f' w' p' wo' wi' la' tk' xs' us' sw', inner X U L c (L - p) ⟨p, wo, wi, la, tk, xs, us, sw⟩ = ⟨p', wo', wi', la', tk', xs', us', sw'⟩ → p' ≤ L → FI pr b6 hb gw sz vz cw L cS cV q c p' wo' la' tk' sw' wv f' → la' < 4096 → wo' < 4096 → SD B w' b6 hb gs gv gw sz vz cs cv cw L s v X U xs' us' sw' →
      xs'.length + (L - p') ≤ N1 → us'.length + (L - p') ≤ N2 → sw'.length + (L - p') ≤ N3 → Keeps (ch hb gs gv gw) w w' → Q (.exit 2) f' w') :
    Code.wp Yba.prog ((Yba.f30.body.bind (blk 2)).getD .skip) Q f w := by
  conv => arg 2; whnf
  obtain ⟨tgt, htgt⟩ : ∃ t, inner X U L c (L - p) ⟨p, wo, wi, la, tk, xs, us, sw⟩ = t := ⟨_, rfl⟩
  rw [htgt] at hend
  refine wp_loop_ghost (Ii pr b6 hb gw sz vz cw L cS cV B gs gv cs cv s v q c N1 N2 N3 X U wv w tgt) (L - p) ⟨p, wo, wi, la, tk, xs, us, sw, hp, rfl, htgt, hF, hwi, hla, hwo, hS, k1, k2, k3, Keeps.refl _ _⟩ ?_
  clear hF hwi hla hwo hS k1 k2 k3 hp htgt f p wo wi la tk xs us sw
  rintro m f w1 ⟨p, wo, wi, la, tk, xs, us, sw, hp, rfl, htgt, ⟨hsz, hds, e4, e6, e10, e12, e13, e14, e16, e17, e18, e19, e20, e21, e22, e23⟩, hwi, hla, hwo, hS, k1, k2, k3, hK⟩
  obtain ⟨g, hg⟩ : ∃ g : Nat → Value, ∀ t, f.tmps[t]?.getD undef = g t := ⟨_, fun _ => rfl⟩
  rw [hg] at e4 e6 e10 e12 e13 e14 e16 e17 e18 e19 e20 e21 e22 e23
  rw [lit285 f g hg hsz hds, e4, e6, e10, e12, e13, e14, e16, e17, e18, e19, e20, e21, e22, e23]
  clear hg hsz hds e4 e6 e10 e12 e13 e14 e16 e17 e18 e19 e20 e21 e22 e23
  by_cases hin : p < L ∧ X p < c
  · obtain ⟨hpL, hXc⟩ := hin
    have h0 : (0 : Int) ≤ (p : Int) := by omega
    have h1 : (p : Int) < (L : Int) := by omega
    have h2 : ((X p : Nat) : Int) < (c : Int) := by omega
    have cx := hS.rx p hpL
    have cu := hS.ru p hpL
    have hUp := hU p
    have hXp := hX p
    have nxt : ∀ st, inA X U ⟨p, wo, wi, la, tk, xs, us, sw⟩ = st → inner X U L c (L - (p + 1)) st = tgt := by
      intro st hst
      rw [← htgt, show L - p = (L - (p + 1)) + 1 by omega]
      simp only [inner]
      rw [if_pos ⟨hpL, hXc⟩, hst]
    have HN : Hid (_) := nxt
    have HS : Hid (_) := hS
    have HK : Hid (_) := hK
    have HE : Hid (_) := hend
    have HU : Hid (_) := hU
    have HX : Hid (_) := hX
    have HT : Hid (_) := htgt
    clear nxt hS hK hend hU hX htgt
    generalize hu : U p = u at *
    generalize hx : X p = x at *
    have HU1 : Hid (_) := hu
    have HX1 : Hid (_) := hx
    clear hu hx
    cases tk with
    | false =>
      clear hwi
      by_cases hlu : la < u
      · have ho := ord_gt u la hlu (by omega)
        go_wp2_with fail
        rename_i K1 hK1
        refine r24 B hb gs gv cs cv xs us x u sz L cS p _ w1 HS.out.out hpL (by have := HS.out.rx p hpL; rw [HX1.out] at this; exact this) D.s1 (by simp; omega) (by simp; omega) rfl rfl rfl rfl rfl rfl ?_
        intro f2 w3 hsz hds hold hO3 hK3
        have e4 : f2.tmps[4]?.getD undef = .slice (some ⟨gw, 0, none⟩) (sw).length cw := hold 4 (by omega)
        have e6 : f2.tmps[6]?.getD undef = .pointer (some ⟨b6, 0, none⟩) := hold 6 (by omega)
        have e10 : f2.tmps[10]?.getD undef = pr := hold 10 (by omega)
        have e12 : f2.tmps[12]?.getD undef = .slice (some ⟨sz, 0, none⟩) L cS := hold 12 (by omega)
        have e13 : f2.tmps[13]?.getD undef = .slice (some ⟨vz, 0, none⟩) L cV := hold 13 (by omega)
        have e14 : f2.tmps[14]?.getD undef = .int .i64 (L : Int) := hold 14 (by omega)
        have e16 : f2.tmps[16]?.getD undef = .pointer (some ⟨hb, 0, none⟩) := hold 16 (by omega)
        have e17 : f2.tmps[17]?.getD undef = .int .i64 (p : Int) := hold 17 (by omega)
        have e18 : f2.tmps[18]?.getD undef = .float .f64 (W u) := hold 18 (by omega)
        have e19 : f2.tmps[19]?.getD undef = wv := hold 19 (by omega)
        have e20 : f2.tmps[20]?.getD undef = .float .f64 (W la) := hold 20 (by omega)
        have e21 : f2.tmps[21]?.getD undef = .bool false := hold 21 (by omega)
        have e22 : f2.tmps[22]?.getD undef = .int .i64 (q : Int) := hold 22 (by omega)
        have e23 : f2.tmps[23]?.getD undef = .int .i64 (c : Int) := hold 23 (by omega)
        obtain ⟨g2, hg2⟩ : ∃ g2 : Nat → Value, ∀ t, f2.tmps[t]?.getD undef = g2 t := ⟨_, fun _ => rfl⟩
        rw [hg2] at e4 e6 e10 e12 e13 e14 e16 e17 e18 e19 e20 e21 e22 e23
        rw [lit285 f2 g2 hg2 hsz hds, e4, e6, e10, e12, e13, e14, e16, e17, e18, e19, e20, e21, e22, e23]
        clear hg2 hsz hds e4 e6 e10 e12 e13 e14 e16 e17 e18 e19 e20 e21 e22 e23
        have HS3 : Hid (_) := SD.outs HS.out D hO3 hK3
        have HK3 : Hid (_) := HK.out.trans hK3 (fun _ _ h => ch_of h)
        clear hO3 hK3 hold
        first
          | (refine hK1 _ _ ?_; clear hK1; go_wp2_with fail; exact ⟨L - (p + 1), by omega, p + 1, u, wi, u, false, xs ++ [x], us ++ [u], sw, by omega, rfl, HN.out _ (by rw [inA, if_neg (by simp), if_pos (by show la < U p; rw [HU1.out]; exact hlu), HU1.out, HX1.out]), ⟨rfl, rfl, (by first | rfl | (rw [List.length_append]; rfl)), rfl, rfl, rfl, rfl, rfl, rfl, (by first | rfl | go_num), rfl, rfl, rfl, rfl, rfl, rfl⟩, fun h => (by cases h), hUp, hUp, HS3.out, (by (try simp); omega), (by (try simp); omega), (by (try simp); omega), HK3.out⟩)
          | (go_wp2_with fail; exact ⟨L - (p + 1), by omega, p + 1, u, wi, u, false, xs ++ [x], us ++ [u], sw, by omega, rfl, HN.out _ (by rw [inA, if_neg (by simp), if_pos (by show la < U p; rw [HU1.out]; exact hlu), HU1.out, HX1.out]), ⟨rfl, rfl, (by first | rfl | (rw [List.length_append]; rfl)), rfl, rfl, rfl, rfl, rfl, rfl, (by first | rfl | go_num), rfl, rfl, rfl, rfl, rfl, rfl⟩, fun h => (by cases h), hUp, hUp, HS3.out, (by (try simp); omega), (by (try simp); omega), (by (try simp); omega), HK3.out⟩)
      · have ho : FloatKind.f64.format.order (W u) (W la) = some .lt ∨ FloatKind.f64.format.order (W u) (W la) = some .eq := by
          rcases Nat.lt_or_ge u la with h | h
          · exact Or.inl (ord_lt u la h (by omega))
          · obtain rfl : u = la := by omega
            exact Or.inr (ord_eq u (by omega))
        rcases ho with ho | ho
        all_goals
          go_wp2_with fail
          exact ⟨L - (p + 1), by omega, p + 1, u, wi, la, false, xs, us, sw, by omega, rfl, HN.out _ (by rw [inA, if_neg (by simp), if_neg (by show ¬ la < U p; rw [HU1.out]; exact hlu), HU1.out]), ⟨rfl, rfl, rfl, rfl, rfl, rfl, rfl, rfl, rfl, (by first | rfl | go_num), rfl, rfl, rfl, rfl, rfl, rfl⟩, fun h => (by cases h), hla, hUp, HS.out, by omega, by omega, by omega, HK.out⟩
    | true =>
      obtain ⟨rfl, hwl⟩ := hwi rfl
      by_cases hwu : wi ≤ u
      · obtain ⟨i0, hi0, hz0, hz1, hz2⟩ := info_parts info3
        have hw : FloatKind.f64.format.order (W wi) (W u) = some .lt ∨ FloatKind.f64.format.order (W wi) (W u) = some .eq := by
          rcases Nat.lt_or_ge wi u with h | h
          · exact Or.inl (ord_lt wi u h (by omega))
          · obtain rfl : u = wi := by omega
            exact Or.inr (ord_eq u (by omega))
        by_cases hlu : la < u
        · have ho := ord_gt u la hlu (by omega)
          rcases hw with hw | hw
          all_goals
            go_wp2_with (at_builtin; refine wpList_append_fits _ rfl (.tmp 143) (.tmp 148) 29 rfl B 3 i0 1 Yba.underlying29 hi0 hz1 gw _ cw _ rfl (SD.alloc HS.out _).sw ⟨w1.heap.size, 0, none⟩ 1 1 [.int .i64 (x : Int)] rfl rfl (by intro j q' hj; match j, hj with | 0, hj => simp at hj; subst hj; simp [Addr.add]) (by intro q' hq; simp at hq; subst hq; rfl) (by omega) ?_; intro w2 ho2 hgrow2; have HS2 : Hid (_) := SD.push (SD.alloc HS.out _) D ho2 hgrow2; have HK2 : Hid (_) := Keeps.grown (Keeps.alloc HK.out _) hgrow2 (fun k hk _ => by simp at hk; subst hk; exact Or.inr (Or.inr (Or.inr rfl))); clear ho2 hgrow2)
            rename_i K1 hK1
            refine r24 B hb gs gv cs cv xs us x u sz L cS p _ w2 HS2.out.out hpL (by have := HS2.out.rx p hpL; rw [HX1.out] at this; exact this) D.s1 (by simp; omega) (by simp; omega) rfl rfl rfl rfl rfl rfl ?_
            intro f2 w3 hsz hds hold hO3 hK3
            have e4 : f2.tmps[4]?.getD undef = .slice (some ⟨gw, 0, none⟩) (sw ++ [x]).length cw := by rw [List.length_append]; exact hold 4 (by omega)
            have e6 : f2.tmps[6]?.getD undef = .pointer (some ⟨b6, 0, none⟩) := hold 6 (by omega)
            have e10 : f2.tmps[10]?.getD undef = pr := hold 10 (by omega)
            have e12 : f2.tmps[12]?.getD undef = .slice (some ⟨sz, 0, none⟩) L cS := hold 12 (by omega)
            have e13 : f2.tmps[13]?.getD undef = .slice (some ⟨vz, 0, none⟩) L cV := hold 13 (by omega)
            have e14 : f2.tmps[14]?.getD undef = .int .i64 (L : Int) := hold 14 (by omega)
            have e16 : f2.tmps[16]?.getD undef = .pointer (some ⟨hb, 0, none⟩) := hold 16 (by omega)
            have e17 : f2.tmps[17]?.getD undef = .int .i64 (p : Int) := hold 17 (by omega)
            have e18 : f2.tmps[18]?.getD undef = .float .f64 (W u) := hold 18 (by omega)
            have e19 : f2.tmps[19]?.getD undef = .float .f64 (W wi) := hold 19 (by omega)
            have e20 : f2.tmps[20]?.getD undef = .float .f64 (W la) := hold 20 (by omega)
            have e21 : f2.tmps[21]?.getD undef = .bool false := hold 21 (by omega)
            have e22 : f2.tmps[22]?.getD undef = .int .i64 (q : Int) := hold 22 (by omega)
            have e23 : f2.tmps[23]?.getD undef = .int .i64 (c : Int) := hold 23 (by omega)
            obtain ⟨g2, hg2⟩ : ∃ g2 : Nat → Value, ∀ t, f2.tmps[t]?.getD undef = g2 t := ⟨_, fun _ => rfl⟩
            rw [hg2] at e4 e6 e10 e12 e13 e14 e16 e17 e18 e19 e20 e21 e22 e23
            rw [lit285 f2 g2 hg2 hsz hds, e4, e6, e10, e12, e13, e14, e16, e17, e18, e19, e20, e21, e22, e23]
            clear hg2 hsz hds e4 e6 e10 e12 e13 e14 e16 e17 e18 e19 e20 e21 e22 e23
            have HS3 : Hid (_) := SD.outs HS2.out D hO3 hK3
            have HK3 : Hid (_) := HK2.out.trans hK3 (fun _ _ h => ch_of h)
            clear hO3 hK3 hold
            first
              | (refine hK1 _ _ ?_; clear hK1; go_wp2_with fail; exact ⟨L - (p + 1), by omega, p + 1, u, wi, u, false, xs ++ [x], us ++ [u], sw ++ [x], by omega, rfl, HN.out _ (by rw [inA, if_pos rfl, if_pos (by show wi ≤ U p; rw [HU1.out]; exact hwu), if_pos (by show la < U p; rw [HU1.out]; exact hlu), HU1.out, HX1.out]), ⟨rfl, rfl, (by first | rfl | (rw [List.length_append]; rfl)), rfl, rfl, rfl, rfl, rfl, rfl, (by first | rfl | go_num), rfl, rfl, rfl, rfl, rfl, rfl⟩, fun h => (by cases h), hUp, hUp, HS3.out, (by (try simp); omega), (by (try simp); omega), (by (try simp); omega), HK3.out⟩)
              | (go_wp2_with fail; exact ⟨L - (p + 1), by omega, p + 1, u, wi, u, false, xs ++ [x], us ++ [u], sw ++ [x], by omega, rfl, HN.out _ (by rw [inA, if_pos rfl, if_pos (by show wi ≤ U p; rw [HU1.out]; exact hwu), if_pos (by show la < U p; rw [HU1.out]; exact hlu), HU1.out, HX1.out]), ⟨rfl, rfl, (by first | rfl | (rw [List.length_append]; rfl)), rfl, rfl, rfl, rfl, rfl, rfl, (by first | rfl | go_num), rfl, rfl, rfl, rfl, rfl, rfl⟩, fun h => (by cases h), hUp, hUp, HS3.out, (by (try simp); omega), (by (try simp); omega), (by (try simp); omega), HK3.out⟩)
        · have ho : FloatKind.f64.format.order (W u) (W la) = some .lt ∨ FloatKind.f64.format.order (W u) (W la) = some .eq := by
            rcases Nat.lt_or_ge u la with h | h
            · exact Or.inl (ord_lt u la h (by omega))
            · obtain rfl : u = la := by omega
              exact Or.inr (ord_eq u (by omega))
          rcases hw with hw | hw <;> rcases ho with ho | ho
          all_goals
            go_wp2_with (at_builtin; refine wpList_append_fits _ rfl (.tmp 143) (.tmp 148) 29 rfl B 3 i0 1 Yba.underlying29 hi0 hz1 gw _ cw _ rfl (SD.alloc HS.out _).sw ⟨w1.heap.size, 0, none⟩ 1 1 [.int .i64 (x : Int)] rfl rfl (by intro j q' hj; match j, hj with | 0, hj => simp at hj; subst hj; simp [Addr.add]) (by intro q' hq; simp at hq; subst hq; rfl) (by omega) ?_; intro w2 ho2 hgrow2; have HS2 : Hid (_) := SD.push (SD.alloc HS.out _) D ho2 hgrow2; have HK2 : Hid (_) := Keeps.grown (Keeps.alloc HK.out _) hgrow2 (fun k hk _ => by simp at hk; subst hk; exact Or.inr (Or.inr (Or.inr rfl))); clear ho2 hgrow2)
            exact ⟨L - (p + 1), by omega, p + 1, u, wi, la, false, xs, us, sw ++ [x], by omega, rfl, HN.out _ (by rw [inA, if_pos rfl, if_pos (by show wi ≤ U p; rw [HU1.out]; exact hwu), if_neg (by show ¬ la < U p; rw [HU1.out]; exact hlu), HU1.out, HX1.out]), ⟨rfl, rfl, (by rw [List.length_append]; rfl), rfl, rfl, rfl, rfl, rfl, rfl, (by first | rfl | go_num), rfl, rfl, rfl, rfl, rfl, rfl⟩, fun h => (by cases h), hla, hUp, HS2.out, by omega, by omega, (by rw [List.length_append]; simp; omega), HK2.out⟩
      · have hw := ord_gt wi u (by omega) (by omega)
        go_wp2_with fail
        exact ⟨L - (p + 1), by omega, p + 1, u, wi, la, true, xs, us, sw, by omega, rfl, HN.out _ (by rw [inA, if_pos rfl, if_neg (by show ¬ wi ≤ U p; rw [HU1.out]; exact hwu), HU1.out]), ⟨rfl, rfl, rfl, rfl, rfl, rfl, rfl, rfl, rfl, (by first | rfl | go_num), rfl, rfl, rfl, rfl, rfl, rfl⟩, fun _ => ⟨rfl, hwl⟩, hla, hUp, HS.out, by omega, by omega, by omega, HK.out⟩
  · have hdone : inner X U L c (L - p) ⟨p, wo, wi, la, tk, xs, us, sw⟩ = ⟨p, wo, wi, la, tk, xs, us, sw⟩ := by
      cases hk : L - p with
      | zero => rfl
      | succ k => simp only [inner]; rw [if_neg hin]
    rw [hdone] at htgt
    have cxx := fun h => hS.rx p h
    have HE : Hid (_) := fun f' hF' => hend f' w1 p wo wi la tk xs us sw htgt.symm hp hF' hla hwo hS k1 k2 k3 hK
    clear hend hS hK htgt hdone
    by_cases hpL : p < L
    · have h0 : (0 : Int) ≤ (p : Int) := by omega
      have h1 : (p : Int) < (L : Int) := by omega
      have h2 : ¬ ((X p : Nat) : Int) < (c : Int) := fun h => hin ⟨hpL, by omega⟩
      have cx := cxx hpL
      clear cxx
      go_wp2_with fail
      exact HE.out _ ⟨rfl, rfl, rfl, rfl, rfl, rfl, rfl, rfl, rfl, rfl, rfl, rfl, rfl, rfl, rfl, rfl⟩
    · have h1 : ¬ (p : Int) < (L : Int) := by omega
      clear cxx
      go_wp2_with fail
      exact HE.out _ ⟨rfl, rfl, rfl, rfl, rfl, rfl, rfl, rfl, rfl, rfl, rfl, rfl, rfl, rfl, rfl, rfl⟩
end Go.Proofs.Ybulkbnbu.Kn
