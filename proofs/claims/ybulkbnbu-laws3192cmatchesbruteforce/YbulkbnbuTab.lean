/-
  The curve's 'add' (function 12): the table's loop.
-/
import Derived.Test.YbulkbnbuAddS
namespace Go.Proofs.Ybulkbnbu.Kn
set_option linter.unusedSimpArgs false
set_option linter.unusedVariables false
open Go.ChangeShapes Go.WideShapes Go.ChangeAt Go.RowKit
open Go.Proofs.Ybulkbnbu.Fl Go.Proofs.Ybulkbnbu.Pl
attribute [local go_sem] run_store_float

def FT (ib gt room gk n ck j : Nat) (f : Act) : Prop := f.tmps.size = 191 ∧ f.defers = [] ∧ f.tmps[3]?.getD undef = .pointer (some ⟨ib, 0, none⟩) ∧ f.tmps[5]?.getD undef = .slice (some ⟨gt, 0, none⟩) (room + 1) (room + 1) ∧ f.tmps[6]?.getD undef = .slice (some ⟨gk, n, none⟩) 1 (ck - n) ∧ f.tmps[7]?.getD undef = .int .i64 ((j : Int) - 1)
def tbF (sf vf : Nat → Nat) (m j i : Nat) : Value := .float .f64 (W (if j ≤ i then F sf vf (m + 1) i else F sf vf m i))
structure TL (ib gt room gk n ck s v m : Nat) (sf vf : Nat → Nat) (w0 : World) (j : Nat) (tw : Nat → Nat) (w : World) : Prop where
  tb : w.rowIs gt 26 (room + 1) (tbF sf vf m j)
  tn : w.rowIs gk 63 ck (fun i => .int .u64 ((tw i : Nat) : Int))
  i0 : w.cell? ⟨ib, 0, none⟩ = some (.int .i64 (s : Int))
  i1 : w.cell? ⟨ib, 1, none⟩ = some (.float .f64 (W v))
  bits : ∀ i, i ≤ room → (tw n).testBit i = (decide (j ≤ i) && T sf vf m i)
  lim : tw n < 2 ^ 64
  keeps : Keeps (fun k => k = gt ∨ k = gk) w0 w
def It (ib gt room gk n ck s v m : Nat) (sf vf : Nat → Nat) (w0 : World) (t0 : Nat → Nat) (q : Nat) (f : Act) (w : World) : Prop :=
  ∃ j tw, q = j ∧ j ≤ room + 1 ∧ FT ib gt room gk n ck j f ∧ TL ib gt room gk n ck s v m sf vf w0 j tw w ∧ ∀ i, i ≠ n → tw i = t0 i

theorem bit_step (x c room : Nat) (t : Nat → Bool) (ht : t c = true) (h : ∀ i, i ≤ room → x.testBit i = (decide (c + 1 ≤ i) && t i)) : ∀ i, i ≤ room → (x ||| 2 ^ c).testBit i = (decide (c ≤ i) && t i) := fun i hi => by
  rw [Nat.testBit_or, Nat.testBit_two_pow, h i hi]
  by_cases e : c = i
  · subst e; simp [ht]
  · by_cases e2 : c + 1 ≤ i
    · have : c ≤ i := by omega
      simp [e, e2, this]
    · have : ¬ c ≤ i := by omega
      simp [e, e2, this]
theorem bit_same (x c room : Nat) (t : Nat → Bool) (ht : t c = false) (h : ∀ i, i ≤ room → x.testBit i = (decide (c + 1 ≤ i) && t i)) : ∀ i, i ≤ room → x.testBit i = (decide (c ≤ i) && t i) := fun i hi => by
  rw [h i hi]
  by_cases e : c = i
  · subst e; simp [ht]
  · by_cases e2 : c + 1 ≤ i
    · have : c ≤ i := by omega
      simp [e2, this]
    · have : ¬ c ≤ i := by omega
      simp [e2, this]

set_option maxRecDepth 100000 in
set_option maxHeartbeats 4000000 in
theorem tab_loop {Q : Exit → Act → World → Prop} (ib gt room gk n ck s v m : Nat) (sf vf : Nat → Nat) (t0 : Nat → Nat) (f : Act) (w : World) (hsf : sf m = s) (hvf : vf m = v) (hs : 1 ≤ s) (hs7 : s < 1000) (hv : v < 1000) (hroom : room ≤ 47) (hn : n < ck) (hFb : ∀ c, F sf vf m c < 10000) (nib : ib ≠ gt ∧ ib ≠ gk ∧ gt ≠ gk)
    (hF : FT ib gt room gk n ck (room + 1) f) (hT : TL ib gt room gk n ck s v m sf vf w (room + 1) t0 w)
    (hend : ∀ (f' : Act) (w' : World) (tw : Nat → Nat), f'.tmps.size = 191 → f'.defers = [] → w'.rowIs gt 26 (room + 1) (fun c => .float .f64 (W (F sf vf (m + 1) c))) → w'.rowIs gk 63 ck (fun i => .int .u64 ((tw i : Nat) : Int)) → (∀ i, i ≤ room → (tw n).testBit i = T sf vf m i) → tw n < 2 ^ 64 → (∀ i, i ≠ n → tw i = t0 i) → Keeps (fun k => k = gt ∨ k = gk) w w' → Q (.exit 0) f' w') :
    Code.wp Yba.prog ((Yba.f12.body.bind (blk 0)).getD .skip) Q f w := by
  conv => arg 2; whnf
  refine wp_loop_ghost (It ib gt room gk n ck s v m sf vf w t0) (room + 1) ⟨room + 1, t0, rfl, Nat.le_refl _, hF, hT, fun _ _ => rfl⟩ ?_
  clear hF hT f
  rintro j f w1 ⟨_, tw, rfl, hj, ⟨hsz, hds, e3, e5, e6, e7⟩, hT, hne⟩
  obtain ⟨g, hg⟩ : ∃ g : Nat → Value, ∀ t, f.tmps[t]?.getD undef = g t := ⟨_, fun _ => rfl⟩
  rw [hg] at e3 e5 e6 e7
  rw [lit191 f g hg hsz hds, e3, e5, e6, e7]
  clear hg hsz hds e3 e5 e6 e7

  have hTT : ∀ c, T sf vf m c = decide (s ≤ c ∧ F sf vf m c < F sf vf m (c - s) + v) := fun c => by unfold T; rw [hsf, hvf]
  have hFF : ∀ c, F sf vf (m + 1) c = if T sf vf m c = true then F sf vf m (c - s) + v else F sf vf m c := fun c => by rw [F_succ, hsf, hvf]
  have i0 := hT.i0
  have i1 := hT.i1
  by_cases hin : s < j
  · obtain ⟨c, rfl⟩ : ∃ c, j = c + 1 := ⟨j - 1, by omega⟩
    have e0 : ((c + 1 : Nat) : Int) - 1 = (c : Int) := by omega
    rw [e0]
    have ca := hT.tb.cell (i := c - s) (by omega)
    have cc := hT.tb.cell (i := c) (by omega)
    have fc := hT.tb.frozen c
    have va : tbF sf vf m (c + 1) (c - s) = .float .f64 (W (F sf vf m (c - s))) := by unfold tbF; rw [if_neg (by omega)]
    have vc : tbF sf vf m (c + 1) c = .float .f64 (W (F sf vf m c)) := by unfold tbF; rw [if_neg (by omega)]
    rw [va] at ca
    rw [vc] at cc
    have b1 := hFb (c - s)
    have b2 := hFb c
    have hadd := fun w => addF w (F sf vf m (c - s)) v (by omega)
    have h1 : (s : Int) ≤ (c : Int) := by omega
    have h2 : (0 : Int) ≤ (c : Int) - (s : Int) := by omega
    have h3 : (c : Int) - (s : Int) < (room : Int) + 1 := by omega
    have h4 : ((c : Int) - (s : Int)).toNat = c - s := by omega
    have h5 : (0 : Int) ≤ (c : Int) := by omega
    have h6 : (c : Int) < (room : Int) + 1 := by omega
    have HT : Hid (_) := hT
    have HN : Hid (_) := hne
    have HE : Hid (_) := hend
    have HTT : Hid (_) := hTT c
    have HFF : Hid (_) := hFF c
    clear hT hne hend hTT hFF va vc e0
    by_cases hlt : F sf vf m c < F sf vf m (c - s) + v
    · have ho := ord_gt (F sf vf m (c - s) + v) (F sf vf m c) hlt (by omega)
      have hTc : T sf vf m c = true := by rw [HTT.out]; exact decide_eq_true ⟨by omega, hlt⟩
      have hFc : F sf vf (m + 1) c = F sf vf m (c - s) + v := by rw [HFF.out, if_pos hTc]
      have HTc : Hid (_) := hTc
      have HFc : Hid (_) := hFc
      clear hTc hFc
      go_wp2_with fail
      go_quiet (fail)
      rename_i K1 hK1
      refine hK1 _ _ ?_
      clear hK1
      go_wp2_with fail
      rename_i K2 hK2
      have hrow := ((World.rowIs.of_block HT.out.tb (w' := w1.drewN nq) rfl).set c (.float .f64 (W (F sf vf m (c - s) + v)))).congr (g := tbF sf vf m c) (fun i _ => by
        unfold tbF
        by_cases e : i = c
        · subst e; rw [if_pos rfl, if_pos (Nat.le_refl _), HFc.out]
        · rw [if_neg e]
          by_cases e2 : c + 1 ≤ i
          · rw [if_pos e2, if_pos (by omega)]
          · rw [if_neg e2, if_neg (by omega)])
      have htn := World.rowIs.setOther (World.rowIs.of_block HT.out.tn (w' := w1.drewN nq) rfl) (a := ⟨gt, c, none⟩) (Ne.symm nib.2.2) (.float .f64 (W (F sf vf m (c - s) + v)))
      have hi0 : ((w1.drewN nq).setCell ⟨gt, c, none⟩ (.float .f64 (W (F sf vf m (c - s) + v)))).cell? ⟨ib, 0, none⟩ = some (.int .i64 (s : Int)) := (((Keeps.refl (fun k => k = gt) w1).drewN nq).setCell (fun _ => rfl) _).cell i0 nib.1
      have hi1 : ((w1.drewN nq).setCell ⟨gt, c, none⟩ (.float .f64 (W (F sf vf m (c - s) + v)))).cell? ⟨ib, 1, none⟩ = some (.float .f64 (W v)) := (((Keeps.refl (fun k => k = gt) w1).drewN nq).setCell (fun _ => rfl) _).cell i1 nib.1
      have hkp : Keeps (fun k => k = gt ∨ k = gk) w ((w1.drewN nq).setCell ⟨gt, c, none⟩ (.float .f64 (W (F sf vf m (c - s) + v)))) := (HT.out.keeps.drewN nq).setCell (fun _ => Or.inl rfl) _
      clear i0 i1 ca cc fc
      generalize ((w1.drewN nq).setCell ⟨gt, c, none⟩ (.float .f64 (W (F sf vf m (c - s) + v)))) = w2 at *
      refine c18 gk n ck c tw _ w2 rfl rfl rfl rfl htn hn (by omega) HT.out.lim ?_
      intro f2 w3 hsz hds hold htn3 hk3
      have e3 : f2.tmps[3]?.getD undef = .pointer (some ⟨ib, 0, none⟩) := hold 3 (by omega)
      have e5 : f2.tmps[5]?.getD undef = .slice (some ⟨gt, 0, none⟩) (room + 1) (room + 1) := hold 5 (by omega)
      have e6 : f2.tmps[6]?.getD undef = .slice (some ⟨gk, n, none⟩) 1 (ck - n) := hold 6 (by omega)
      have e7 : f2.tmps[7]?.getD undef = .int .i64 (c : Int) := hold 7 (by omega)
      refine hK2 _ _ ?_
      clear hK2 hold
      obtain ⟨g2, hg2⟩ : ∃ g2 : Nat → Value, ∀ t, f2.tmps[t]?.getD undef = g2 t := ⟨_, fun _ => rfl⟩
      rw [hg2] at e3 e5 e6 e7
      rw [lit191 f2 g2 hg2 hsz hds, e3, e5, e6, e7]
      clear hg2 hsz hds e3 e5 e6 e7

      have hlim2 : tw n ||| 2 ^ c < 2 ^ 64 := Nat.or_lt_two_pow HT.out.lim (Nat.pow_lt_pow_right (by omega) (by omega))
      have hTL : TL ib gt room gk n ck s v m sf vf w c (fun i => if i = n then tw n ||| 2 ^ c else tw i) w3 := by
        refine ⟨hrow.of_block (hk3.block gt hrow.lt nib.2.2), htn3, hk3.cell hi0 nib.2.1, hk3.cell hi1 nib.2.1, ?_, ?_, hkp.trans hk3 (fun _ _ h => Or.inr h)⟩
        · simp only [if_true]
          exact bit_step _ c room _ HTc.out HT.out.bits
        · simp only [if_true]; exact hlim2
      have HTL : Hid (_) := hTL
      clear hTL hrow htn hi0 hi1 hkp htn3 hk3
      go_wp2_with fail
      exact ⟨c, by omega, c, _, rfl, by omega, ⟨rfl, rfl, rfl, rfl, rfl, (by first | rfl | go_num)⟩, HTL.out, fun i hi => by rw [if_neg hi]; exact HN.out i hi⟩
    · have ho : FloatKind.f64.format.order (W (F sf vf m (c - s) + v)) (W (F sf vf m c)) = some .lt ∨ FloatKind.f64.format.order (W (F sf vf m (c - s) + v)) (W (F sf vf m c)) = some .eq := by
        rcases Nat.lt_or_ge (F sf vf m (c - s) + v) (F sf vf m c) with h | h
        · exact Or.inl (ord_lt _ _ h (by omega))
        · have e : F sf vf m (c - s) + v = F sf vf m c := by omega
          rw [e]; exact Or.inr (ord_eq _ (by omega))
      have hTc : T sf vf m c = false := by rw [HTT.out]; exact decide_eq_false (fun h => hlt h.2)
      have hFc : F sf vf (m + 1) c = F sf vf m c := by rw [HFF.out, if_neg (by rw [hTc]; simp)]
      have hTL : ∀ q, TL ib gt room gk n ck s v m sf vf w c tw (w1.drewN q) := fun q => by
        refine ⟨(World.rowIs.of_block HT.out.tb (w' := w1.drewN q) rfl).congr (fun i _ => ?_), World.rowIs.of_block HT.out.tn (w' := w1.drewN q) rfl, i0, i1, bit_same _ c room _ hTc HT.out.bits, HT.out.lim, HT.out.keeps.drewN q⟩
        unfold tbF
        by_cases e : i = c
        · subst e; rw [if_neg (by omega), if_pos (Nat.le_refl _), hFc]
        · by_cases e2 : c + 1 ≤ i
          · rw [if_pos e2, if_pos (by omega)]
          · rw [if_neg e2, if_neg (by omega)]
      have HTL : Hid (_) := hTL
      clear hTL hTc hFc
      rcases ho with ho | ho
      all_goals
        go_wp2_with fail
        go_quiet (fail)
        rename_i K1 hK1
        refine hK1 _ _ ?_
        clear hK1
        go_wp2_with fail
        exact ⟨c, by omega, c, _, rfl, by omega, ⟨rfl, rfl, rfl, rfl, rfl, (by first | rfl | go_num)⟩, HTL.out _, HN.out⟩
  · have h1 : ¬ (s : Int) ≤ (j : Int) - 1 := by omega
    have hR1 : w1.rowIs gt 26 (room + 1) (fun c => .float .f64 (W (F sf vf (m + 1) c))) := hT.tb.congr (fun i _ => by
      unfold tbF
      by_cases e : j ≤ i
      · rw [if_pos e]
      · rw [if_neg e, hFF, if_neg]
        rw [hTT]; simp; omega)
    have hB : ∀ i, i ≤ room → (tw n).testBit i = T sf vf m i := fun i hi => by
      rw [hT.bits i hi]
      by_cases e : j ≤ i
      · simp [e]
      · rw [hTT]
        have : ¬ s ≤ i := by omega
        simp [e, this]
    have HE : Hid (_) := fun (f' : Act) h1 h2 => hend f' w1 tw h1 h2 hR1 hT.tn hB hT.lim hne hT.keeps
    clear hend hT hne hTT hFF hR1 hB
    go_wp2_with fail
    exact HE.out _ rfl rfl
end Go.Proofs.Ybulkbnbu.Kn
