/-
  The staircase's 'add' (function 30): the end of a round of its sweep.
-/
import Derived.Test.YbulkbnbuIn
namespace Go.Proofs.Ybulkbnbu.Kn
set_option linter.unusedSimpArgs false
set_option linter.unusedVariables false
open Go.ChangeShapes Go.WideShapes Go.ChangeAt Go.RowKit
open Go.Proofs.Ybulkbnbu.Fl

/-- The code from a region on. -/
def from_ (n : Nat) : Code → Option Code
  | .seq (.region i ops d) b => if i = n then some (.seq (.region i ops d) b) else from_ n b
  | .seq a b => match from_ n a with | some c => some c | none => from_ n b
  | .cond _ a b => match from_ n a with | some c => some c | none => from_ n b
  | .loop c => from_ n c
  | .block _ c => from_ n c
  | _ => none
/-- The sequence that begins with the piece that holds a region. -/
def has (n : Nat) : Code → Bool
  | .region i _ _ => i == n
  | .seq a b => has n a || has n b
  | .cond _ a b => has n a || has n b
  | .loop c => has n c
  | .block _ c => has n c
  | _ => false
def fst_ (n : Nat) : Code → Bool
  | .region i _ _ => i == n
  | .seq a _ => fst_ n a
  | _ => false
/-- The longest code that begins with a region. -/
def at_ (n : Nat) : Code → Option Code
  | .seq a b => if fst_ n (.seq a b) then some (.seq a b) else match at_ n a with | some c => some c | none => at_ n b
  | .cond _ a b => match at_ n a with | some c => some c | none => at_ n b
  | .loop c => at_ n c
  | .block _ c => at_ n c
  | _ => none

theorem max_run (ts : Array TypeId) (ty : TypeId) (a b : Nat) (ha : a < 4096) (hb : b < 4096) (w : World) : (Builtin.max_ ts ty #[.float .f64 (W a), .float .f64 (W b)]).run Yba.prog w = .ok (.float .f64 (W (max a b))) w := by
  unfold Builtin.max_
  simp only [List.foldlM_cons, List.foldlM_nil, Builtin.max2]
  rcases Nat.lt_trichotomy a b with h | h | h
  · rw [ord_lt a b h (by omega), show max a b = b by omega]; rfl
  · subst h; rw [ord_eq a (by omega), show max a a = a by omega]; simp
  · rw [ord_gt a b h (by omega), show max a b = a by omega]; rfl

set_option maxRecDepth 100000 in
set_option maxHeartbeats 8000000 in
theorem tail30 {Q : Exit → Act → World → Prop} (pr : Value) (b6 hb gw sz vz cw L cS cV : Nat) (B gs gv cs cv s v q c : Nat) (X U : Nat → Nat) (p wo wi w9 la : Nat) (tk : Bool) (xs us sw : List Nat) (f : Act) (w : World) (D : DD b6 hb gs gv gw sz vz)
    (hwi : wi < 4096) (hwo : wo < 4096) (hla : la < 4096) (hF : FI pr b6 hb gw sz vz cw L cS cV q c p wo la tk sw (.float .f64 (W wi)) f) (hS : SD B w b6 hb gs gv gw sz vz cs cv cw L s v X U xs us sw) (k1 : xs.length + 1 ≤ cs) (k2 : us.length + 1 ≤ cv) (k3 : sw.length + 1 ≤ cw)
    (hend : ∀ f' w' tk' la' xs' us' sw', outB c wi ⟨p, wo, w9, la, tk, xs, us, sw⟩ = ⟨p, wo, wi, la', tk', xs', us', sw'⟩ → FI pr b6 hb gw sz vz cw L cS cV q c p wo la' tk' sw' (.float .f64 (W wi)) f' → la' < 4096 → SD B w' b6 hb gs gv gw sz vz cs cv cw L s v X U xs' us' sw' →
      xs'.length ≤ xs.length + 1 → us'.length ≤ us.length + 1 → sw'.length ≤ sw.length + 1 → Keeps (ch hb gs gv gw) w w' → Q .normal f' w') :
    Code.wp Yba.prog ((Yba.f30.body.bind (at_ 30)).getD .skip) Q f w := by
  conv => arg 2; whnf
  obtain ⟨i0, hi0, hz0, hz1, hz2⟩ := info_parts info3
  obtain ⟨hsz, hds, e4, e6, e10, e12, e13, e14, e16, e17, e18, e19, e20, e21, e22, e23⟩ := hF
  obtain ⟨g, hg⟩ : ∃ g : Nat → Value, ∀ t, f.tmps[t]?.getD undef = g t := ⟨_, fun _ => rfl⟩
  rw [hg] at e4 e6 e10 e12 e13 e14 e16 e17 e18 e19 e20 e21 e22 e23
  rw [lit285 f g hg hsz hds, e4, e6, e10, e12, e13, e14, e16, e17, e18, e19, e20, e21, e22, e23]
  clear hg hsz hds e4 e6 e10 e12 e13 e14 e16 e17 e18 e19 e20 e21 e22 e23
  have HS : Hid (_) := hS
  have HE : Hid (_) := hend
  clear hS hend
  rcases Nat.lt_trichotomy wi wo with hc | hc | hc
  · have hc1 := ord_lt wi wo hc (by omega)
    have hmx : ∀ ts ty w, (Builtin.max_ ts ty #[.float .f64 (W wi), .float .f64 (W wo)]).run Yba.prog w = .ok (.float .f64 (W wo)) w := fun ts ty w => by
      have := max_run ts ty wi wo (by omega) (by omega) w
      rwa [show max wi wo = wo by omega] at this
    cases tk with
    | false =>
      by_cases hlu : la < wo
      · have ho := ord_gt (wo) la hlu (by omega)
        go_wp2_with fail
        have HS2 : Hid (_) := HS.out
        have HK2 : Hid (_) := Keeps.refl (ch hb gs gv gw) w
        try rename_i K1 hK1
        refine r36 B hb gs gv cs cv xs us c (wo) _ w HS2.out.out (by simp; omega) (by simp; omega) rfl rfl rfl rfl rfl ?_
        intro f2 w3 hsz hds hold hO3 hK3
        have e4 : f2.tmps[4]?.getD undef = .slice (some ⟨gw, 0, none⟩) (sw).length cw := hold 4 (by omega)
        have e6 : f2.tmps[6]?.getD undef = .pointer (some ⟨b6, 0, none⟩) := hold 6 (by omega)
        have e10 : f2.tmps[10]?.getD undef = pr := hold 10 (by omega)
        have e12 : f2.tmps[12]?.getD undef = .slice (some ⟨sz, 0, none⟩) L cS := hold 12 (by omega)
        have e13 : f2.tmps[13]?.getD undef = .slice (some ⟨vz, 0, none⟩) L cV := hold 13 (by omega)
        have e14 : f2.tmps[14]?.getD undef = .int .i64 (L : Int) := hold 14 (by omega)
        have e16 : f2.tmps[16]?.getD undef = .pointer (some ⟨hb, 0, none⟩) := hold 16 (by omega)
        have e17 : f2.tmps[17]?.getD undef = .int .i64 (p : Int) := hold 17 (by omega)
        have e18 : f2.tmps[18]?.getD undef = .float .f64 (W wo) := hold 18 (by omega)
        have e19 : f2.tmps[19]?.getD undef = .float .f64 (W wi) := hold 19 (by omega)
        have e20 : f2.tmps[20]?.getD undef = .float .f64 (W la) := hold 20 (by omega)
        have e21 : f2.tmps[21]?.getD undef = .bool false := hold 21 (by omega)
        have e22 : f2.tmps[22]?.getD undef = .int .i64 (q : Int) := hold 22 (by omega)
        have e23 : f2.tmps[23]?.getD undef = .int .i64 (c : Int) := hold 23 (by omega)
        have e25 : f2.tmps[25]?.getD undef = .float .f64 (W (wo)) := hold 25 (by omega)
        obtain ⟨g2, hg2⟩ : ∃ g2 : Nat → Value, ∀ t, f2.tmps[t]?.getD undef = g2 t := ⟨_, fun _ => rfl⟩
        rw [hg2] at e4 e6 e10 e12 e13 e14 e16 e17 e18 e19 e20 e21 e22 e23 e25
        rw [lit285 f2 g2 hg2 hsz hds, e4, e6, e10, e12, e13, e14, e16, e17, e18, e19, e20, e21, e22, e23, e25]
        clear hg2 hsz hds e4 e6 e10 e12 e13 e14 e16 e17 e18 e19 e20 e21 e22 e23 e25
        have HS3 : Hid (_) := SD.outs HS2.out D hO3 hK3
        have HK3 : Hid (_) := HK2.out.trans hK3 (fun _ _ h => ch_of h)
        clear hO3 hK3 hold
        first
          | (refine hK1 _ _ ?_; clear hK1; go_wp2_with fail; exact HE.out _ _ false (wo) (xs ++ [c]) (us ++ [wo]) (sw) (by simp only [outB, decide_eq_false (by omega : ¬ wo < wi), (by omega : max wi wo = wo)]; simp [hlu]) ⟨rfl, rfl, (by first | rfl | (rw [List.length_append]; rfl)), rfl, rfl, rfl, rfl, rfl, rfl, rfl, rfl, rfl, rfl, rfl, rfl, rfl⟩ (by omega) HS3.out (by first | omega | (simp; done) | (simp; omega)) (by first | omega | (simp; done) | (simp; omega)) (by first | omega | (simp; done) | (simp; omega)) HK3.out)
          | (go_wp2_with fail; exact HE.out _ _ false (wo) (xs ++ [c]) (us ++ [wo]) (sw) (by simp only [outB, decide_eq_false (by omega : ¬ wo < wi), (by omega : max wi wo = wo)]; simp [hlu]) ⟨rfl, rfl, (by first | rfl | (rw [List.length_append]; rfl)), rfl, rfl, rfl, rfl, rfl, rfl, rfl, rfl, rfl, rfl, rfl, rfl, rfl⟩ (by omega) HS3.out (by first | omega | (simp; done) | (simp; omega)) (by first | omega | (simp; done) | (simp; omega)) (by first | omega | (simp; done) | (simp; omega)) HK3.out)
      · have ho : FloatKind.f64.format.order (W (wo)) (W la) = some .lt ∨ FloatKind.f64.format.order (W (wo)) (W la) = some .eq := by
          rcases Nat.lt_or_ge (wo) la with h | h
          · exact Or.inl (ord_lt _ la h (by omega))
          · obtain rfl : la = wo := by omega
            exact Or.inr (ord_eq _ (by omega))
        rcases ho with ho | ho
        all_goals
          go_wp2_with fail
          have HS2 : Hid (_) := HS.out
          have HK2 : Hid (_) := Keeps.refl (ch hb gs gv gw) w
          exact HE.out _ _ false la xs us (sw) (by simp only [outB, decide_eq_false (by omega : ¬ wo < wi), (by omega : max wi wo = wo)]; simp [hlu]) ⟨rfl, rfl, (by first | rfl | (rw [List.length_append]; rfl)), rfl, rfl, rfl, rfl, rfl, rfl, rfl, rfl, rfl, rfl, rfl, rfl, rfl⟩ (by omega) HS2.out (by first | omega | (simp; done) | (simp; omega)) (by first | omega | (simp; done) | (simp; omega)) (by first | omega | (simp; done) | (simp; omega)) HK2.out
    | true =>
      by_cases hlu : la < wo
      · have ho := ord_gt (wo) la hlu (by omega)
        go_wp2_with (at_builtin; refine wpList_append_fits _ rfl (.tmp 205) (.tmp 207) 29 rfl B 3 i0 1 Yba.underlying29 hi0 hz1 gw _ cw _ rfl (SD.alloc HS.out _).sw ⟨w.heap.size, 0, none⟩ 1 1 [.int .i64 (c : Int)] rfl rfl (by intro j q' hj; match j, hj with | 0, hj => simp at hj; subst hj; simp [Addr.add]) (by intro q' hq; simp at hq; subst hq; rfl) (by omega) ?_; intro w2 ho2 hgrow2; have HS2 : Hid (_) := SD.push (SD.alloc HS.out _) D ho2 hgrow2; have HK2 : Hid (_) := Keeps.grown (Keeps.alloc (Keeps.refl (ch hb gs gv gw) w) _) hgrow2 (fun k hk _ => by simp at hk; subst hk; exact Or.inr (Or.inr (Or.inr rfl))); clear ho2 hgrow2)
        try rename_i K1 hK1
        refine r36 B hb gs gv cs cv xs us c (wo) _ w2 HS2.out.out (by simp; omega) (by simp; omega) rfl rfl rfl rfl rfl ?_
        intro f2 w3 hsz hds hold hO3 hK3
        have e4 : f2.tmps[4]?.getD undef = .slice (some ⟨gw, 0, none⟩) (sw ++ [c]).length cw := by rw [List.length_append]; exact hold 4 (by omega)
        have e6 : f2.tmps[6]?.getD undef = .pointer (some ⟨b6, 0, none⟩) := hold 6 (by omega)
        have e10 : f2.tmps[10]?.getD undef = pr := hold 10 (by omega)
        have e12 : f2.tmps[12]?.getD undef = .slice (some ⟨sz, 0, none⟩) L cS := hold 12 (by omega)
        have e13 : f2.tmps[13]?.getD undef = .slice (some ⟨vz, 0, none⟩) L cV := hold 13 (by omega)
        have e14 : f2.tmps[14]?.getD undef = .int .i64 (L : Int) := hold 14 (by omega)
        have e16 : f2.tmps[16]?.getD undef = .pointer (some ⟨hb, 0, none⟩) := hold 16 (by omega)
        have e17 : f2.tmps[17]?.getD undef = .int .i64 (p : Int) := hold 17 (by omega)
        have e18 : f2.tmps[18]?.getD undef = .float .f64 (W wo) := hold 18 (by omega)
        have e19 : f2.tmps[19]?.getD undef = .float .f64 (W wi) := hold 19 (by omega)
        have e20 : f2.tmps[20]?.getD undef = .float .f64 (W la) := hold 20 (by omega)
        have e21 : f2.tmps[21]?.getD undef = .bool false := hold 21 (by omega)
        have e22 : f2.tmps[22]?.getD undef = .int .i64 (q : Int) := hold 22 (by omega)
        have e23 : f2.tmps[23]?.getD undef = .int .i64 (c : Int) := hold 23 (by omega)
        have e25 : f2.tmps[25]?.getD undef = .float .f64 (W (wo)) := hold 25 (by omega)
        obtain ⟨g2, hg2⟩ : ∃ g2 : Nat → Value, ∀ t, f2.tmps[t]?.getD undef = g2 t := ⟨_, fun _ => rfl⟩
        rw [hg2] at e4 e6 e10 e12 e13 e14 e16 e17 e18 e19 e20 e21 e22 e23 e25
        rw [lit285 f2 g2 hg2 hsz hds, e4, e6, e10, e12, e13, e14, e16, e17, e18, e19, e20, e21, e22, e23, e25]
        clear hg2 hsz hds e4 e6 e10 e12 e13 e14 e16 e17 e18 e19 e20 e21 e22 e23 e25
        have HS3 : Hid (_) := SD.outs HS2.out D hO3 hK3
        have HK3 : Hid (_) := HK2.out.trans hK3 (fun _ _ h => ch_of h)
        clear hO3 hK3 hold
        first
          | (refine hK1 _ _ ?_; clear hK1; go_wp2_with fail; exact HE.out _ _ false (wo) (xs ++ [c]) (us ++ [wo]) (sw ++ [c]) (by simp only [outB, decide_eq_false (by omega : ¬ wo < wi), (by omega : max wi wo = wo)]; simp [hlu]) ⟨rfl, rfl, (by first | rfl | (rw [List.length_append]; rfl)), rfl, rfl, rfl, rfl, rfl, rfl, rfl, rfl, rfl, rfl, rfl, rfl, rfl⟩ (by omega) HS3.out (by first | omega | (simp; done) | (simp; omega)) (by first | omega | (simp; done) | (simp; omega)) (by first | omega | (simp; done) | (simp; omega)) HK3.out)
          | (go_wp2_with fail; exact HE.out _ _ false (wo) (xs ++ [c]) (us ++ [wo]) (sw ++ [c]) (by simp only [outB, decide_eq_false (by omega : ¬ wo < wi), (by omega : max wi wo = wo)]; simp [hlu]) ⟨rfl, rfl, (by first | rfl | (rw [List.length_append]; rfl)), rfl, rfl, rfl, rfl, rfl, rfl, rfl, rfl, rfl, rfl, rfl, rfl, rfl⟩ (by omega) HS3.out (by first | omega | (simp; done) | (simp; omega)) (by first | omega | (simp; done) | (simp; omega)) (by first | omega | (simp; done) | (simp; omega)) HK3.out)
      · have ho : FloatKind.f64.format.order (W (wo)) (W la) = some .lt ∨ FloatKind.f64.format.order (W (wo)) (W la) = some .eq := by
          rcases Nat.lt_or_ge (wo) la with h | h
          · exact Or.inl (ord_lt _ la h (by omega))
          · obtain rfl : la = wo := by omega
            exact Or.inr (ord_eq _ (by omega))
        rcases ho with ho | ho
        all_goals
          go_wp2_with (at_builtin; refine wpList_append_fits _ rfl (.tmp 205) (.tmp 207) 29 rfl B 3 i0 1 Yba.underlying29 hi0 hz1 gw _ cw _ rfl (SD.alloc HS.out _).sw ⟨w.heap.size, 0, none⟩ 1 1 [.int .i64 (c : Int)] rfl rfl (by intro j q' hj; match j, hj with | 0, hj => simp at hj; subst hj; simp [Addr.add]) (by intro q' hq; simp at hq; subst hq; rfl) (by omega) ?_; intro w2 ho2 hgrow2; have HS2 : Hid (_) := SD.push (SD.alloc HS.out _) D ho2 hgrow2; have HK2 : Hid (_) := Keeps.grown (Keeps.alloc (Keeps.refl (ch hb gs gv gw) w) _) hgrow2 (fun k hk _ => by simp at hk; subst hk; exact Or.inr (Or.inr (Or.inr rfl))); clear ho2 hgrow2)
          exact HE.out _ _ false la xs us (sw ++ [c]) (by simp only [outB, decide_eq_false (by omega : ¬ wo < wi), (by omega : max wi wo = wo)]; simp [hlu]) ⟨rfl, rfl, (by first | rfl | (rw [List.length_append]; rfl)), rfl, rfl, rfl, rfl, rfl, rfl, rfl, rfl, rfl, rfl, rfl, rfl, rfl⟩ (by omega) HS2.out (by first | omega | (simp; done) | (simp; omega)) (by first | omega | (simp; done) | (simp; omega)) (by first | omega | (simp; done) | (simp; omega)) HK2.out
  · subst hc
    have hc1 := ord_eq wi (by omega)
    have hmx : ∀ ts ty w, (Builtin.max_ ts ty #[.float .f64 (W wi), .float .f64 (W wi)]).run Yba.prog w = .ok (.float .f64 (W wi)) w := fun ts ty w => by
      have := max_run ts ty wi wi (by omega) (by omega) w
      rwa [show max wi wi = wi by omega] at this
    cases tk with
    | false =>
      by_cases hlu : la < wi
      · have ho := ord_gt (wi) la hlu (by omega)
        go_wp2_with fail
        have HS2 : Hid (_) := HS.out
        have HK2 : Hid (_) := Keeps.refl (ch hb gs gv gw) w
        try rename_i K1 hK1
        refine r36 B hb gs gv cs cv xs us c (wi) _ w HS2.out.out (by simp; omega) (by simp; omega) rfl rfl rfl rfl rfl ?_
        intro f2 w3 hsz hds hold hO3 hK3
        have e4 : f2.tmps[4]?.getD undef = .slice (some ⟨gw, 0, none⟩) (sw).length cw := hold 4 (by omega)
        have e6 : f2.tmps[6]?.getD undef = .pointer (some ⟨b6, 0, none⟩) := hold 6 (by omega)
        have e10 : f2.tmps[10]?.getD undef = pr := hold 10 (by omega)
        have e12 : f2.tmps[12]?.getD undef = .slice (some ⟨sz, 0, none⟩) L cS := hold 12 (by omega)
        have e13 : f2.tmps[13]?.getD undef = .slice (some ⟨vz, 0, none⟩) L cV := hold 13 (by omega)
        have e14 : f2.tmps[14]?.getD undef = .int .i64 (L : Int) := hold 14 (by omega)
        have e16 : f2.tmps[16]?.getD undef = .pointer (some ⟨hb, 0, none⟩) := hold 16 (by omega)
        have e17 : f2.tmps[17]?.getD undef = .int .i64 (p : Int) := hold 17 (by omega)
        have e18 : f2.tmps[18]?.getD undef = .float .f64 (W wi) := hold 18 (by omega)
        have e19 : f2.tmps[19]?.getD undef = .float .f64 (W wi) := hold 19 (by omega)
        have e20 : f2.tmps[20]?.getD undef = .float .f64 (W la) := hold 20 (by omega)
        have e21 : f2.tmps[21]?.getD undef = .bool false := hold 21 (by omega)
        have e22 : f2.tmps[22]?.getD undef = .int .i64 (q : Int) := hold 22 (by omega)
        have e23 : f2.tmps[23]?.getD undef = .int .i64 (c : Int) := hold 23 (by omega)
        have e25 : f2.tmps[25]?.getD undef = .float .f64 (W (wi)) := hold 25 (by omega)
        obtain ⟨g2, hg2⟩ : ∃ g2 : Nat → Value, ∀ t, f2.tmps[t]?.getD undef = g2 t := ⟨_, fun _ => rfl⟩
        rw [hg2] at e4 e6 e10 e12 e13 e14 e16 e17 e18 e19 e20 e21 e22 e23 e25
        rw [lit285 f2 g2 hg2 hsz hds, e4, e6, e10, e12, e13, e14, e16, e17, e18, e19, e20, e21, e22, e23, e25]
        clear hg2 hsz hds e4 e6 e10 e12 e13 e14 e16 e17 e18 e19 e20 e21 e22 e23 e25
        have HS3 : Hid (_) := SD.outs HS2.out D hO3 hK3
        have HK3 : Hid (_) := HK2.out.trans hK3 (fun _ _ h => ch_of h)
        clear hO3 hK3 hold
        first
          | (refine hK1 _ _ ?_; clear hK1; go_wp2_with fail; exact HE.out _ _ false (wi) (xs ++ [c]) (us ++ [wi]) (sw) (by simp only [outB, decide_eq_false (by omega : ¬ wi < wi), (by omega : max wi wi = wi)]; simp [hlu]) ⟨rfl, rfl, (by first | rfl | (rw [List.length_append]; rfl)), rfl, rfl, rfl, rfl, rfl, rfl, rfl, rfl, rfl, rfl, rfl, rfl, rfl⟩ (by omega) HS3.out (by first | omega | (simp; done) | (simp; omega)) (by first | omega | (simp; done) | (simp; omega)) (by first | omega | (simp; done) | (simp; omega)) HK3.out)
          | (go_wp2_with fail; exact HE.out _ _ false (wi) (xs ++ [c]) (us ++ [wi]) (sw) (by simp only [outB, decide_eq_false (by omega : ¬ wi < wi), (by omega : max wi wi = wi)]; simp [hlu]) ⟨rfl, rfl, (by first | rfl | (rw [List.length_append]; rfl)), rfl, rfl, rfl, rfl, rfl, rfl, rfl, rfl, rfl, rfl, rfl, rfl, rfl⟩ (by omega) HS3.out (by first | omega | (simp; done) | (simp; omega)) (by first | omega | (simp; done) | (simp; omega)) (by first | omega | (simp; done) | (simp; omega)) HK3.out)
      · have ho : FloatKind.f64.format.order (W (wi)) (W la) = some .lt ∨ FloatKind.f64.format.order (W (wi)) (W la) = some .eq := by
          rcases Nat.lt_or_ge (wi) la with h | h
          · exact Or.inl (ord_lt _ la h (by omega))
          · obtain rfl : la = wi := by omega
            exact Or.inr (ord_eq _ (by omega))
        rcases ho with ho | ho
        all_goals
          go_wp2_with fail
          have HS2 : Hid (_) := HS.out
          have HK2 : Hid (_) := Keeps.refl (ch hb gs gv gw) w
          exact HE.out _ _ false la xs us (sw) (by simp only [outB, decide_eq_false (by omega : ¬ wi < wi), (by omega : max wi wi = wi)]; simp [hlu]) ⟨rfl, rfl, (by first | rfl | (rw [List.length_append]; rfl)), rfl, rfl, rfl, rfl, rfl, rfl, rfl, rfl, rfl, rfl, rfl, rfl, rfl⟩ (by omega) HS2.out (by first | omega | (simp; done) | (simp; omega)) (by first | omega | (simp; done) | (simp; omega)) (by first | omega | (simp; done) | (simp; omega)) HK2.out
    | true =>
      by_cases hlu : la < wi
      · have ho := ord_gt (wi) la hlu (by omega)
        go_wp2_with (at_builtin; refine wpList_append_fits _ rfl (.tmp 205) (.tmp 207) 29 rfl B 3 i0 1 Yba.underlying29 hi0 hz1 gw _ cw _ rfl (SD.alloc HS.out _).sw ⟨w.heap.size, 0, none⟩ 1 1 [.int .i64 (c : Int)] rfl rfl (by intro j q' hj; match j, hj with | 0, hj => simp at hj; subst hj; simp [Addr.add]) (by intro q' hq; simp at hq; subst hq; rfl) (by omega) ?_; intro w2 ho2 hgrow2; have HS2 : Hid (_) := SD.push (SD.alloc HS.out _) D ho2 hgrow2; have HK2 : Hid (_) := Keeps.grown (Keeps.alloc (Keeps.refl (ch hb gs gv gw) w) _) hgrow2 (fun k hk _ => by simp at hk; subst hk; exact Or.inr (Or.inr (Or.inr rfl))); clear ho2 hgrow2)
        try rename_i K1 hK1
        refine r36 B hb gs gv cs cv xs us c (wi) _ w2 HS2.out.out (by simp; omega) (by simp; omega) rfl rfl rfl rfl rfl ?_
        intro f2 w3 hsz hds hold hO3 hK3
        have e4 : f2.tmps[4]?.getD undef = .slice (some ⟨gw, 0, none⟩) (sw ++ [c]).length cw := by rw [List.length_append]; exact hold 4 (by omega)
        have e6 : f2.tmps[6]?.getD undef = .pointer (some ⟨b6, 0, none⟩) := hold 6 (by omega)
        have e10 : f2.tmps[10]?.getD undef = pr := hold 10 (by omega)
        have e12 : f2.tmps[12]?.getD undef = .slice (some ⟨sz, 0, none⟩) L cS := hold 12 (by omega)
        have e13 : f2.tmps[13]?.getD undef = .slice (some ⟨vz, 0, none⟩) L cV := hold 13 (by omega)
        have e14 : f2.tmps[14]?.getD undef = .int .i64 (L : Int) := hold 14 (by omega)
        have e16 : f2.tmps[16]?.getD undef = .pointer (some ⟨hb, 0, none⟩) := hold 16 (by omega)
        have e17 : f2.tmps[17]?.getD undef = .int .i64 (p : Int) := hold 17 (by omega)
        have e18 : f2.tmps[18]?.getD undef = .float .f64 (W wi) := hold 18 (by omega)
        have e19 : f2.tmps[19]?.getD undef = .float .f64 (W wi) := hold 19 (by omega)
        have e20 : f2.tmps[20]?.getD undef = .float .f64 (W la) := hold 20 (by omega)
        have e21 : f2.tmps[21]?.getD undef = .bool false := hold 21 (by omega)
        have e22 : f2.tmps[22]?.getD undef = .int .i64 (q : Int) := hold 22 (by omega)
        have e23 : f2.tmps[23]?.getD undef = .int .i64 (c : Int) := hold 23 (by omega)
        have e25 : f2.tmps[25]?.getD undef = .float .f64 (W (wi)) := hold 25 (by omega)
        obtain ⟨g2, hg2⟩ : ∃ g2 : Nat → Value, ∀ t, f2.tmps[t]?.getD undef = g2 t := ⟨_, fun _ => rfl⟩
        rw [hg2] at e4 e6 e10 e12 e13 e14 e16 e17 e18 e19 e20 e21 e22 e23 e25
        rw [lit285 f2 g2 hg2 hsz hds, e4, e6, e10, e12, e13, e14, e16, e17, e18, e19, e20, e21, e22, e23, e25]
        clear hg2 hsz hds e4 e6 e10 e12 e13 e14 e16 e17 e18 e19 e20 e21 e22 e23 e25
        have HS3 : Hid (_) := SD.outs HS2.out D hO3 hK3
        have HK3 : Hid (_) := HK2.out.trans hK3 (fun _ _ h => ch_of h)
        clear hO3 hK3 hold
        first
          | (refine hK1 _ _ ?_; clear hK1; go_wp2_with fail; exact HE.out _ _ false (wi) (xs ++ [c]) (us ++ [wi]) (sw ++ [c]) (by simp only [outB, decide_eq_false (by omega : ¬ wi < wi), (by omega : max wi wi = wi)]; simp [hlu]) ⟨rfl, rfl, (by first | rfl | (rw [List.length_append]; rfl)), rfl, rfl, rfl, rfl, rfl, rfl, rfl, rfl, rfl, rfl, rfl, rfl, rfl⟩ (by omega) HS3.out (by first | omega | (simp; done) | (simp; omega)) (by first | omega | (simp; done) | (simp; omega)) (by first | omega | (simp; done) | (simp; omega)) HK3.out)
          | (go_wp2_with fail; exact HE.out _ _ false (wi) (xs ++ [c]) (us ++ [wi]) (sw ++ [c]) (by simp only [outB, decide_eq_false (by omega : ¬ wi < wi), (by omega : max wi wi = wi)]; simp [hlu]) ⟨rfl, rfl, (by first | rfl | (rw [List.length_append]; rfl)), rfl, rfl, rfl, rfl, rfl, rfl, rfl, rfl, rfl, rfl, rfl, rfl, rfl⟩ (by omega) HS3.out (by first | omega | (simp; done) | (simp; omega)) (by first | omega | (simp; done) | (simp; omega)) (by first | omega | (simp; done) | (simp; omega)) HK3.out)
      · have ho : FloatKind.f64.format.order (W (wi)) (W la) = some .lt ∨ FloatKind.f64.format.order (W (wi)) (W la) = some .eq := by
          rcases Nat.lt_or_ge (wi) la with h | h
          · exact Or.inl (ord_lt _ la h (by omega))
          · obtain rfl : la = wi := by omega
            exact Or.inr (ord_eq _ (by omega))
        rcases ho with ho | ho
        all_goals
          go_wp2_with (at_builtin; refine wpList_append_fits _ rfl (.tmp 205) (.tmp 207) 29 rfl B 3 i0 1 Yba.underlying29 hi0 hz1 gw _ cw _ rfl (SD.alloc HS.out _).sw ⟨w.heap.size, 0, none⟩ 1 1 [.int .i64 (c : Int)] rfl rfl (by intro j q' hj; match j, hj with | 0, hj => simp at hj; subst hj; simp [Addr.add]) (by intro q' hq; simp at hq; subst hq; rfl) (by omega) ?_; intro w2 ho2 hgrow2; have HS2 : Hid (_) := SD.push (SD.alloc HS.out _) D ho2 hgrow2; have HK2 : Hid (_) := Keeps.grown (Keeps.alloc (Keeps.refl (ch hb gs gv gw) w) _) hgrow2 (fun k hk _ => by simp at hk; subst hk; exact Or.inr (Or.inr (Or.inr rfl))); clear ho2 hgrow2)
          exact HE.out _ _ false la xs us (sw ++ [c]) (by simp only [outB, decide_eq_false (by omega : ¬ wi < wi), (by omega : max wi wi = wi)]; simp [hlu]) ⟨rfl, rfl, (by first | rfl | (rw [List.length_append]; rfl)), rfl, rfl, rfl, rfl, rfl, rfl, rfl, rfl, rfl, rfl, rfl, rfl, rfl⟩ (by omega) HS2.out (by first | omega | (simp; done) | (simp; omega)) (by first | omega | (simp; done) | (simp; omega)) (by first | omega | (simp; done) | (simp; omega)) HK2.out
  · have hc1 := ord_gt wi wo hc (by omega)
    have hmx : ∀ ts ty w, (Builtin.max_ ts ty #[.float .f64 (W wi), .float .f64 (W wo)]).run Yba.prog w = .ok (.float .f64 (W wi)) w := fun ts ty w => by
      have := max_run ts ty wi wo (by omega) (by omega) w
      rwa [show max wi wo = wi by omega] at this
    cases tk with
    | false =>
      by_cases hlu : la < wi
      · have ho := ord_gt (wi) la hlu (by omega)
        go_wp2_with (at_builtin; refine wpList_append_fits _ rfl (.tmp 205) (.tmp 207) 29 rfl B 3 i0 1 Yba.underlying29 hi0 hz1 gw _ cw _ rfl (SD.alloc HS.out _).sw ⟨w.heap.size, 0, none⟩ 1 1 [.int .i64 (c : Int)] rfl rfl (by intro j q' hj; match j, hj with | 0, hj => simp at hj; subst hj; simp [Addr.add]) (by intro q' hq; simp at hq; subst hq; rfl) (by omega) ?_; intro w2 ho2 hgrow2; have HS2 : Hid (_) := SD.push (SD.alloc HS.out _) D ho2 hgrow2; have HK2 : Hid (_) := Keeps.grown (Keeps.alloc (Keeps.refl (ch hb gs gv gw) w) _) hgrow2 (fun k hk _ => by simp at hk; subst hk; exact Or.inr (Or.inr (Or.inr rfl))); clear ho2 hgrow2)
        try rename_i K1 hK1
        refine r36 B hb gs gv cs cv xs us c (wi) _ w2 HS2.out.out (by simp; omega) (by simp; omega) rfl rfl rfl rfl rfl ?_
        intro f2 w3 hsz hds hold hO3 hK3
        have e4 : f2.tmps[4]?.getD undef = .slice (some ⟨gw, 0, none⟩) (sw ++ [c]).length cw := by rw [List.length_append]; exact hold 4 (by omega)
        have e6 : f2.tmps[6]?.getD undef = .pointer (some ⟨b6, 0, none⟩) := hold 6 (by omega)
        have e10 : f2.tmps[10]?.getD undef = pr := hold 10 (by omega)
        have e12 : f2.tmps[12]?.getD undef = .slice (some ⟨sz, 0, none⟩) L cS := hold 12 (by omega)
        have e13 : f2.tmps[13]?.getD undef = .slice (some ⟨vz, 0, none⟩) L cV := hold 13 (by omega)
        have e14 : f2.tmps[14]?.getD undef = .int .i64 (L : Int) := hold 14 (by omega)
        have e16 : f2.tmps[16]?.getD undef = .pointer (some ⟨hb, 0, none⟩) := hold 16 (by omega)
        have e17 : f2.tmps[17]?.getD undef = .int .i64 (p : Int) := hold 17 (by omega)
        have e18 : f2.tmps[18]?.getD undef = .float .f64 (W wo) := hold 18 (by omega)
        have e19 : f2.tmps[19]?.getD undef = .float .f64 (W wi) := hold 19 (by omega)
        have e20 : f2.tmps[20]?.getD undef = .float .f64 (W la) := hold 20 (by omega)
        have e21 : f2.tmps[21]?.getD undef = .bool true := hold 21 (by omega)
        have e22 : f2.tmps[22]?.getD undef = .int .i64 (q : Int) := hold 22 (by omega)
        have e23 : f2.tmps[23]?.getD undef = .int .i64 (c : Int) := hold 23 (by omega)
        have e25 : f2.tmps[25]?.getD undef = .float .f64 (W (wi)) := hold 25 (by omega)
        obtain ⟨g2, hg2⟩ : ∃ g2 : Nat → Value, ∀ t, f2.tmps[t]?.getD undef = g2 t := ⟨_, fun _ => rfl⟩
        rw [hg2] at e4 e6 e10 e12 e13 e14 e16 e17 e18 e19 e20 e21 e22 e23 e25
        rw [lit285 f2 g2 hg2 hsz hds, e4, e6, e10, e12, e13, e14, e16, e17, e18, e19, e20, e21, e22, e23, e25]
        clear hg2 hsz hds e4 e6 e10 e12 e13 e14 e16 e17 e18 e19 e20 e21 e22 e23 e25
        have HS3 : Hid (_) := SD.outs HS2.out D hO3 hK3
        have HK3 : Hid (_) := HK2.out.trans hK3 (fun _ _ h => ch_of h)
        clear hO3 hK3 hold
        first
          | (refine hK1 _ _ ?_; clear hK1; go_wp2_with fail; exact HE.out _ _ true (wi) (xs ++ [c]) (us ++ [wi]) (sw ++ [c]) (by simp only [outB, decide_eq_true (by omega : wo < wi), (by omega : max wi wo = wi)]; simp [hlu]) ⟨rfl, rfl, (by first | rfl | (rw [List.length_append]; rfl)), rfl, rfl, rfl, rfl, rfl, rfl, rfl, rfl, rfl, rfl, rfl, rfl, rfl⟩ (by omega) HS3.out (by first | omega | (simp; done) | (simp; omega)) (by first | omega | (simp; done) | (simp; omega)) (by first | omega | (simp; done) | (simp; omega)) HK3.out)
          | (go_wp2_with fail; exact HE.out _ _ true (wi) (xs ++ [c]) (us ++ [wi]) (sw ++ [c]) (by simp only [outB, decide_eq_true (by omega : wo < wi), (by omega : max wi wo = wi)]; simp [hlu]) ⟨rfl, rfl, (by first | rfl | (rw [List.length_append]; rfl)), rfl, rfl, rfl, rfl, rfl, rfl, rfl, rfl, rfl, rfl, rfl, rfl, rfl⟩ (by omega) HS3.out (by first | omega | (simp; done) | (simp; omega)) (by first | omega | (simp; done) | (simp; omega)) (by first | omega | (simp; done) | (simp; omega)) HK3.out)
      · have ho : FloatKind.f64.format.order (W (wi)) (W la) = some .lt ∨ FloatKind.f64.format.order (W (wi)) (W la) = some .eq := by
          rcases Nat.lt_or_ge (wi) la with h | h
          · exact Or.inl (ord_lt _ la h (by omega))
          · obtain rfl : la = wi := by omega
            exact Or.inr (ord_eq _ (by omega))
        rcases ho with ho | ho
        all_goals
          go_wp2_with (at_builtin; refine wpList_append_fits _ rfl (.tmp 205) (.tmp 207) 29 rfl B 3 i0 1 Yba.underlying29 hi0 hz1 gw _ cw _ rfl (SD.alloc HS.out _).sw ⟨w.heap.size, 0, none⟩ 1 1 [.int .i64 (c : Int)] rfl rfl (by intro j q' hj; match j, hj with | 0, hj => simp at hj; subst hj; simp [Addr.add]) (by intro q' hq; simp at hq; subst hq; rfl) (by omega) ?_; intro w2 ho2 hgrow2; have HS2 : Hid (_) := SD.push (SD.alloc HS.out _) D ho2 hgrow2; have HK2 : Hid (_) := Keeps.grown (Keeps.alloc (Keeps.refl (ch hb gs gv gw) w) _) hgrow2 (fun k hk _ => by simp at hk; subst hk; exact Or.inr (Or.inr (Or.inr rfl))); clear ho2 hgrow2)
          exact HE.out _ _ true la xs us (sw ++ [c]) (by simp only [outB, decide_eq_true (by omega : wo < wi), (by omega : max wi wo = wi)]; simp [hlu]) ⟨rfl, rfl, (by first | rfl | (rw [List.length_append]; rfl)), rfl, rfl, rfl, rfl, rfl, rfl, rfl, rfl, rfl, rfl, rfl, rfl, rfl⟩ (by omega) HS2.out (by first | omega | (simp; done) | (simp; omega)) (by first | omega | (simp; done) | (simp; omega)) (by first | omega | (simp; done) | (simp; omega)) HK2.out
    | true =>
      by_cases hlu : la < wi
      · have ho := ord_gt (wi) la hlu (by omega)
        go_wp2_with fail
        have HS2 : Hid (_) := HS.out
        have HK2 : Hid (_) := Keeps.refl (ch hb gs gv gw) w
        try rename_i K1 hK1
        refine r36 B hb gs gv cs cv xs us c (wi) _ w HS2.out.out (by simp; omega) (by simp; omega) rfl rfl rfl rfl rfl ?_
        intro f2 w3 hsz hds hold hO3 hK3
        have e4 : f2.tmps[4]?.getD undef = .slice (some ⟨gw, 0, none⟩) (sw).length cw := hold 4 (by omega)
        have e6 : f2.tmps[6]?.getD undef = .pointer (some ⟨b6, 0, none⟩) := hold 6 (by omega)
        have e10 : f2.tmps[10]?.getD undef = pr := hold 10 (by omega)
        have e12 : f2.tmps[12]?.getD undef = .slice (some ⟨sz, 0, none⟩) L cS := hold 12 (by omega)
        have e13 : f2.tmps[13]?.getD undef = .slice (some ⟨vz, 0, none⟩) L cV := hold 13 (by omega)
        have e14 : f2.tmps[14]?.getD undef = .int .i64 (L : Int) := hold 14 (by omega)
        have e16 : f2.tmps[16]?.getD undef = .pointer (some ⟨hb, 0, none⟩) := hold 16 (by omega)
        have e17 : f2.tmps[17]?.getD undef = .int .i64 (p : Int) := hold 17 (by omega)
        have e18 : f2.tmps[18]?.getD undef = .float .f64 (W wo) := hold 18 (by omega)
        have e19 : f2.tmps[19]?.getD undef = .float .f64 (W wi) := hold 19 (by omega)
        have e20 : f2.tmps[20]?.getD undef = .float .f64 (W la) := hold 20 (by omega)
        have e21 : f2.tmps[21]?.getD undef = .bool true := hold 21 (by omega)
        have e22 : f2.tmps[22]?.getD undef = .int .i64 (q : Int) := hold 22 (by omega)
        have e23 : f2.tmps[23]?.getD undef = .int .i64 (c : Int) := hold 23 (by omega)
        have e25 : f2.tmps[25]?.getD undef = .float .f64 (W (wi)) := hold 25 (by omega)
        obtain ⟨g2, hg2⟩ : ∃ g2 : Nat → Value, ∀ t, f2.tmps[t]?.getD undef = g2 t := ⟨_, fun _ => rfl⟩
        rw [hg2] at e4 e6 e10 e12 e13 e14 e16 e17 e18 e19 e20 e21 e22 e23 e25
        rw [lit285 f2 g2 hg2 hsz hds, e4, e6, e10, e12, e13, e14, e16, e17, e18, e19, e20, e21, e22, e23, e25]
        clear hg2 hsz hds e4 e6 e10 e12 e13 e14 e16 e17 e18 e19 e20 e21 e22 e23 e25
        have HS3 : Hid (_) := SD.outs HS2.out D hO3 hK3
        have HK3 : Hid (_) := HK2.out.trans hK3 (fun _ _ h => ch_of h)
        clear hO3 hK3 hold
        first
          | (refine hK1 _ _ ?_; clear hK1; go_wp2_with fail; exact HE.out _ _ true (wi) (xs ++ [c]) (us ++ [wi]) (sw) (by simp only [outB, decide_eq_true (by omega : wo < wi), (by omega : max wi wo = wi)]; simp [hlu]) ⟨rfl, rfl, (by first | rfl | (rw [List.length_append]; rfl)), rfl, rfl, rfl, rfl, rfl, rfl, rfl, rfl, rfl, rfl, rfl, rfl, rfl⟩ (by omega) HS3.out (by first | omega | (simp; done) | (simp; omega)) (by first | omega | (simp; done) | (simp; omega)) (by first | omega | (simp; done) | (simp; omega)) HK3.out)
          | (go_wp2_with fail; exact HE.out _ _ true (wi) (xs ++ [c]) (us ++ [wi]) (sw) (by simp only [outB, decide_eq_true (by omega : wo < wi), (by omega : max wi wo = wi)]; simp [hlu]) ⟨rfl, rfl, (by first | rfl | (rw [List.length_append]; rfl)), rfl, rfl, rfl, rfl, rfl, rfl, rfl, rfl, rfl, rfl, rfl, rfl, rfl⟩ (by omega) HS3.out (by first | omega | (simp; done) | (simp; omega)) (by first | omega | (simp; done) | (simp; omega)) (by first | omega | (simp; done) | (simp; omega)) HK3.out)
      · have ho : FloatKind.f64.format.order (W (wi)) (W la) = some .lt ∨ FloatKind.f64.format.order (W (wi)) (W la) = some .eq := by
          rcases Nat.lt_or_ge (wi) la with h | h
          · exact Or.inl (ord_lt _ la h (by omega))
          · obtain rfl : la = wi := by omega
            exact Or.inr (ord_eq _ (by omega))
        rcases ho with ho | ho
        all_goals
          go_wp2_with fail
          have HS2 : Hid (_) := HS.out
          have HK2 : Hid (_) := Keeps.refl (ch hb gs gv gw) w
          exact HE.out _ _ true la xs us (sw) (by simp only [outB, decide_eq_true (by omega : wo < wi), (by omega : max wi wo = wi)]; simp [hlu]) ⟨rfl, rfl, (by first | rfl | (rw [List.length_append]; rfl)), rfl, rfl, rfl, rfl, rfl, rfl, rfl, rfl, rfl, rfl, rfl, rfl, rfl⟩ (by omega) HS2.out (by first | omega | (simp; done) | (simp; omega)) (by first | omega | (simp; done) | (simp; omega)) (by first | omega | (simp; done) | (simp; omega)) HK2.out
end Go.Proofs.Ybulkbnbu.Kn
