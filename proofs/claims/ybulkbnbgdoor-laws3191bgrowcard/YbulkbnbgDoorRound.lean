/-
  'propagate' (function 12): one literal's consequences.
-/
import Derived.Test.YbulkbnbgDoorRoundA
namespace Go.Proofs.YbulkbnbgDoor.Pr
set_option linter.unusedSimpArgs false
open Go.ChangeShapes Go.WideShapes Go.ChangeAt Go.RowKit

theorem row_bound {a n k : Nat} (ha : a < n) (hk : k ≤ 2) (hn : n ≤ 80) {z : Int} (hz : z = (a : Int) * (k : Int)) : 0 ≤ z ∧ z ≤ 158 ∧ z + (k : Int) ≤ ((n * k : Nat) : Int) ∧ z.toNat = a * k ∧ (z + (k : Int)).toNat = a * k + k ∧ (n * k : Nat) ≤ 160 ∧ a * k + k ≤ n * k := by
  have h1 : a * k + k ≤ n * k := by
    have : (a + 1) * k ≤ n * k := Nat.mul_le_mul_right _ ha
    rw [Nat.succ_mul] at this; exact this
  have h2 : n * k ≤ 80 * 2 := Nat.mul_le_mul hn hk
  have h3 : a * k ≤ 79 * 2 := Nat.mul_le_mul (by omega) hk
  have e : z = ((a * k : Nat) : Int) := by rw [hz]; push_cast; rfl
  refine ⟨by omega, by omega, by omega, by omega, by omega, by omega, h1⟩

set_option maxRecDepth 100000 in
set_option maxHeartbeats 2000000 in
theorem round12 {Q : Exit → Act → World → Prop} (c : Cfg) (T : Nat → Nat → Prop) (htrans : ∀ x y z, T x y → T y z → T x z) (s : PS) (w : World) (f : Act) (hF : F3 c f) (hS : St c s w) (hI : Inv c T s) (hTab : Tab w) (hPos : Pos c s) (hlt : s.head < s.tr.length)
    (hnext : ∀ f' w' s', F3 c f' → Mn c T s w s' w' → s'.head = s.head + 1 → Q .normal f' w')
    (hret : ∀ f' w', f'.tmps.size = 195 → f'.defers = [] → f'.tmps[2]?.getD undef = .bool true → Broke c T s w w' → Q .ret f' w') :
    Code.wp Ybad.prog ((Ybad.f12.body.bind (blk 1)).getD .skip) Q f w := by
  conv => arg 2; whnf
  obtain ⟨hsz, hds, e0, e3, e4⟩ := hF
  obtain ⟨g, hg⟩ : ∃ g : Nat → Value, ∀ t, f.tmps[t]?.getD undef = g t := ⟨_, fun _ => rfl⟩
  rw [hg] at e0 e3 e4
  rw [lit195 f g hg hsz hds, e0, e3, e4]
  clear hg hsz hds e0 e3 e4
  obtain ⟨tg, tcap, htv, htc⟩ := trail_shape hS (by omega)
  obtain ⟨l, hent⟩ : ∃ l, s.tr[s.head]? = some l := ⟨_, List.getElem?_eq_getElem hlt⟩
  obtain ⟨a, b, ha, hb, hl, hRab⟩ := hI.entry hS.ok hent
  have hok := hS.ok
  have hn2 := hok.n80
  have hw2 := hok.w2
  have hlen := (hI.len hok).2
  have h8 := pc8 hS.p
  rw [htv] at h8
  have h10 := pc10 hS.p
  have hcl := htc s.head l hent
  have hH0 : (0 : Int) ≤ (s.head : Int) := by omega
  have hH1 : (s.head : Int) < (s.tr.length : Int) := by omega
  have hf10 := hS.p.frozen 10
  have hf31 := hS.p.frozen 31
  have h31 := pc31 hS.p
  have hLd : (l : Int) = (a : Int) * (c.n : Int) + (b : Int) := by rw [hl]; push_cast; rfl
  have e1 := lit_div hLd hb
  have e2 := lit_mod hLd hb
  have hbd := lit_bd hLd ha hb hn2
  have HE : Hid (s.tr[s.head]? = some (a * c.n + b)) := (hent.trans (congrArg some hl) : _)
  have HL : Hid (_) := hLd
  have HS : Hid (St c s w) := hS
  have HI : Hid (Inv c T s) := hI
  clear hent hl htc htv hLd hS hI
  go_wp2_with fail
  go_quiet (fail)
  go_upto_region 6 with fail
  go_cut [6, 7] from 58 to 65 (fun v6 v7 wy => v6 = .int .i64 (a : Int) ∧ v7 = .int .i64 (b : Int) ∧ ∃ x, Pk c T s.head { s with head := s.head + 1, work := x } wy { s with head := s.head + 1, work := x } wy ∧ Keeps (own c s.tv.ownBlock) w wy)
  case first =>
    go_quiet (fail)
    go_wp2_with fail
    go_meet
    case rel =>
      have hP := Pk.start HS.out HI.out hTab hPos
      exact ⟨rfl, by rw [e2], _, (hP _ _ _ _ rfl).1, (hP _ _ _ _ rfl).2⟩
  case rest =>
    obtain ⟨rfl, rfl, x, hPk, hK⟩ := hcut
    have h4 := pc4 hPk.st.p
    have hA := row_bound ha hw2 hn2 rfl
    have hB := row_bound hb hw2 hn2 rfl
    have hw1 := hok.w1
    have hA2 : ¬ c.n * c.words = a * c.words := by have := hA.2.2.2.2.2.2; omega
    have hB2 : ¬ c.n * c.words = b * c.words := by have := hB.2.2.2.2.2.2; omega
    have HP : Hid (_) := hPk
    clear hPk
    rename_i K hKont
    refine hKont _ _ ?_
    clear hKont
    go_wp2_with fail
    go_quiet (fail)
    go_wp2_with fail
    rename_i K2 hKont
    refine row1 (Q := _) c T htrans s.head { s with head := s.head + 1, work := x } wc (.int .i32 (l : Int)) a b ha hb hRab _ _ ⟨rfl, rfl, rfl, rfl, rfl, rfl, rfl, rfl, rfl, rfl, rfl, rfl⟩ ⟨_, HP.out.drewN _, fun x _ hx => absurd hx (by omega)⟩ ?_ ?_
    · intro f' w' s' hsz hds e0 e3 e4 e5 e6 e7 hP2 hin
      refine hKont _ _ ?_
      clear hKont
      obtain ⟨g', hg'⟩ : ∃ g : Nat → Value, ∀ t, f'.tmps[t]?.getD undef = g t := ⟨_, fun _ => rfl⟩
      rw [hg'] at e0 e3 e4 e5 e6 e7
      rw [lit195 f' g' hg' hsz hds, e0, e3, e4, e5, e6, e7]
      clear hg' hsz hds e0 e3 e4 e5 e6 e7 h4 h8 h10 hcl hf10 hf31 h31
      have h3 := pc3 hP2.st.p
      have HP2 : Hid (_) := hP2
      have HIn : Hid (_) := hin
      clear hP2 hin
      go_wp2_with fail
      go_quiet (fail)
      go_wp2_with fail
      rename_i K3 hKont
      refine row2 (Q := _) c T htrans s.head s' w' (.int .i32 (l : Int)) a b ha hb (HP2.out.ext.mono a b hb hRab) _ _ ⟨rfl, rfl, rfl, rfl, rfl, rfl, rfl, rfl, rfl, rfl, rfl, rfl⟩ ⟨_, HP2.out.rebase.drewN _, fun x _ hx => absurd hx (by omega)⟩ ?_ ?_
      · intro f' w3 s3 hsz hds e0 e3 e4 e5 e6 e7 hP3 hout
        refine hKont _ _ ?_
        clear hKont
        obtain ⟨g', hg'⟩ : ∃ g : Nat → Value, ∀ t, f'.tmps[t]?.getD undef = g t := ⟨_, fun _ => rfl⟩
        rw [hg'] at e0 e3 e4 e5 e6 e7
        rw [lit195 f' g' hg' hsz hds, e0, e3, e4, e5, e6, e7]
        clear hg' hsz hds e0 e3 e4 e5 e6 e7 h3
        have HP3 : Hid (_) := hP3
        have HOut : Hid (_) := hout
        clear hP3 hout
        go_wp2_with fail
        refine (neg_any c hok s3 _ HP3.out.st.p _ a b HL.out ha hb).mono ?_
        rintro e w4 ⟨rfl, k4, rfl⟩
        go_wp2_with fail
        refine (visit_any c s3 _ (HP3.out.st.drewN k4) _ b a rfl hb ha).mono ?_
        rintro e w5 ⟨rfl, hS5, hK5⟩
        have HM : Hid (_) := Mn.finish HI.out ha hb (HE.out) hK HP2.out HIn.out HP3.out HOut.out hS5 (((Keeps.refl _ _).drewN k4).trans hK5 fun _ _ h => h)
        clear hS5 hK5
        go_wp2_with fail
        exact hnext _ _ s3 ⟨rfl, rfl, rfl, rfl, rfl⟩ HM.out.1 HM.out.2
      · intro f' w' h1 h2 h3 h4
        exact hret f' w' h1 h2 h3 ⟨h4.1, h4.2.1, Fr.keeps (s1 := s') (w1 := _) ((Fr.trans (s1 := { s with head := s.head + 1, work := x }) (w1 := wc) ⟨hK, Or.inl rfl⟩ HP2.out.fr)) h4.2.2⟩
    · intro f' w' h1 h2 h3 h4
      exact hret f' w' h1 h2 h3 ⟨h4.1, h4.2.1, Fr.keeps (s1 := { s with head := s.head + 1, work := x }) (w1 := wc) ⟨hK, Or.inl rfl⟩ h4.2.2⟩
end Go.Proofs.YbulkbnbgDoor.Pr
