/-
  The law (function 3): the walk over all subsets.
-/
import Derived.Test.YbulkbnbuL3
namespace Go.Proofs.Ybulkbnbu.Kn
set_option linter.unusedSimpArgs false
set_option linter.unusedVariables false
open Go.ChangeShapes Go.WideShapes Go.ChangeAt Go.RowKit
open Go.Proofs.Ybulkbnbu.Fl Go.Proofs.Ybulkbnbu.Pl Go.Sort
attribute [local go_sem] run_store_float

theorem i64_and1 (n : Int) : bits .and .i64 n 1 = n % 2 := by
  have h1 : (BitVec.ofInt 64 1).toNat = 2 ^ 1 - 1 := by decide
  have key : (BitVec.ofInt 64 n &&& BitVec.ofInt 64 1).toNat = (n % ((2 ^ 64 : Nat) : Int)).toNat % 2 ^ 1 := by
    rw [BitVec.toNat_and, BitVec.toNat_ofInt, h1, Nat.and_two_pow_sub_one_eq_mod]
  show IntKind.i64.wrap ((BitVec.ofInt 64 n &&& BitVec.ofInt 64 1).toNat : Nat) = n % 2
  rw [key, IntKind.wrap_i64]
  omega
theorem bit_at (m i : Nat) : (bits .and .i64 ((m : Int) / 2 ^ i) 1 == 1) = m.testBit i := by
  rw [i64_and1, Nat.testBit_eq_decide_div_mod_eq]
  have e : (m : Int) / 2 ^ i % 2 = ((m / 2 ^ i % 2 : Nat) : Int) := by simp
  rw [e]
  by_cases h : m / 2 ^ i % 2 = 1
  · rw [decide_eq_true h, h]; rfl
  · rw [decide_eq_false h]; simp; omega
theorem on_bd (p : Nat → Bool) (f : Nat → Nat) (B : Nat) (h : ∀ i, f i ≤ B) (k : Nat) : sm (on p f) k ≤ B * k := by
  induction k with
  | zero => simp [sm]
  | succ k ih =>
    have h1 : on p f k ≤ B := by unfold on; split; exact h k; omega
    simp only [sm, Nat.mul_add]; omega
theorem bf_bd (s v : Nat → Nat) (n c : Nat) (hn : n ≤ 12) (hv : ∀ i, v i ≤ 9) (m : Nat) : bf s v n c m < 1000 := by
  have := bf_le s v n c 108 (fun p _ => by have := on_bd p v 9 hv n; omega) m
  omega

set_option maxRecDepth 100000 in
set_option maxHeartbeats 8000000 in
theorem l2 {Rr : Ending → World → Prop} (ib go n co cap got cc : Nat) (p : Option Addr) (C : List Nat) (s v : Nat → Nat) (f : Act) (w : World) (hL : Lst w 0 p C) (hI : Itm w go n s v) (hB : BestOk s v n cap got C) (hn : n ≤ 12) (hs : ∀ i, 1 ≤ s i ∧ s i ≤ 7) (hv : ∀ i, v i ≤ 9) (hcap : cap ≤ 47)
    (hsz : f.tmps.size = 132) (hds : f.defers = []) (e7 : f.tmps[7]?.getD undef = .int .i64 (n : Int)) (e8 : f.tmps[8]?.getD undef = .slice (some ⟨ib, 0, none⟩) n n) (e9 : f.tmps[9]?.getD undef = .slice (some ⟨go, 0, none⟩) n co) (e10 : f.tmps[10]?.getD undef = .int .i64 (cap : Int)) (e11 : f.tmps[11]?.getD undef = .float .f64 (W got)) (e12 : f.tmps[12]?.getD undef = .slice p C.length cc)
    (hE : Calls Yba.prog 8 #[.slice (some ⟨ib, 0, none⟩) n n, .slice (some ⟨go, 0, none⟩) n co] w fun e w' => e = .returned (.bool true) ∧ Keeps (fun _ => False) w w')
    (hR : ∀ w', Keeps (fun _ => False) w w' → Rr (.returned (.bool true)) w') :
    Code.wp Yba.prog ((Yba.f3.body.bind (at_ 10)).getD .skip) (bodyPost Yba.prog Yba.f3 Rr) f w := by
  conv => arg 2; whnf
  obtain ⟨g, hg⟩ : ∃ g : Nat → Value, ∀ t, f.tmps[t]?.getD undef = g t := ⟨_, fun _ => rfl⟩
  rw [hg] at e7 e8 e9 e10 e11 e12
  rw [lit132 f g hg hsz hds, e7, e8, e9, e10, e11, e12]
  clear hg hsz hds e7 e8 e9 e10 e11 e12

  have HRA : Hid (_) := hR
  have HE : Hid (_) := hE
  have HA : Hid (_) := And.intro hL (And.intro hI (And.intro hB (And.intro hs hv)))
  clear hR hL hI hB hs hv hE
  have hpw : (2 : Int) ^ n = ((2 ^ n : Nat) : Int) := by simp
  have hpb : 2 ^ n ≤ 2 ^ 12 := Nat.pow_le_pow_right (by omega) hn
  obtain ⟨N, hN⟩ : ∃ N, N = 2 ^ n := ⟨_, rfl⟩
  rw [← hN] at hpw hpb
  have HN : Hid (_) := hN
  clear hN
  obtain ⟨bg, hbg⟩ : ∃ g : Nat → Nat, g = bf s v n cap := ⟨_, rfl⟩
  have HG : Hid (_) := hbg
  clear hbg
  go_wp2_with (go_at_call 8; refine Calls.mono HE.out ?_; rintro e w1 ⟨rfl, hk1⟩; have HK1 : Hid (_) := hk1; clear hk1)
  rename_i K9 hK9
  have HK9 : Hid (_) := hK9
  clear hK9
  have H0 : Hid (Lst w1 0 p C ∧ Itm w1 go n s v ∧ BestOk s v n cap got C ∧ (∀ i, 1 ≤ s i ∧ s i ≤ 7) ∧ (∀ i, v i ≤ 9)) := by
    obtain ⟨hL, hI, hB, hs, hv⟩ := HA.out
    exact ⟨hL.keep HK1.out (fun _ _ _ h => h), Itm.keep hI HK1.out (fun h => h), hB, hs, hv⟩
  have HR : Hid (Rr (.returned (.bool true)) w1) := HRA.out w1 HK1.out
  clear HRA HA HE HK1
  go_loopw [13, 14, 15, 16, 17] (fun bv mv _ _ _ wr => ∃ m : Nat, m ≤ N ∧ mv = .int .i64 (m : Int) ∧ bv = .float .f64 (W (bg m)) ∧ bg m < 1000 ∧ wr = w1) (fun _ mv _ _ _ _ => N - (intOf mv).toNat)
  case atStart => exact ⟨0, Nat.zero_le _, rfl, by rw [HG.out]; rfl, by rw [HG.out]; simp [bf], rfl⟩
  case round =>
    obtain ⟨m, hm, rfl, rfl, hbb, rfl⟩ := hrel
    by_cases hlt : m < N
    · have b1 : (m : Int) < (N : Int) := by omega
      obtain ⟨si, hsi⟩ : ∃ g : Nat → Nat, g = sm (on m.testBit s) := ⟨_, rfl⟩
      obtain ⟨vi, hvi⟩ : ∃ g : Nat → Nat, g = sm (on m.testBit v) := ⟨_, rfl⟩
      have HSV : Hid (_) := And.intro hsi hvi
      clear hsi hvi
      go_wp2_with fail
      rename_i K8 hK8
      have HK8 : Hid (_) := hK8
      clear hK8
      go_loopw [15, 16, 17] (fun sv tv iv wr2 => ∃ i : Nat, i ≤ n ∧ iv = .int .i64 (i : Int) ∧ sv = .int .i64 ((si i : Nat) : Int) ∧ tv = .float .f64 (W (vi i)) ∧ wr2 = wr) (fun _ _ iv _ => n - (intOf iv).toNat)
      case atStart => exact ⟨0, Nat.zero_le _, rfl, by rw [HSV.out.1]; rfl, by rw [HSV.out.2]; rfl, rfl⟩
      case round =>
        obtain ⟨i, hi, rfl, rfl, rfl, rfl⟩ := hrel
        obtain ⟨hL, hI, hB, hs, hv⟩ := H0.out
        by_cases hlt2 : i < n
        · have c0 := (hI i hlt2).1
          have c1 := (hI i hlt2).2
          have d1 : (i : Int) < (n : Int) := by omega
          have d2 : (0 : Int) ≤ (i : Int) := by omega
          have hvb := on_bd m.testBit v 9 hv i
          have hsb := on_bd m.testBit s 7 (fun i => (hs i).2) i
          rw [← HSV.out.1] at hsb
          rw [← HSV.out.2] at hvb
          have hsx := hs i
          have hvx := hv i
          have hbit := bit_at m i
          have hns : si (i + 1) = si i + if m.testBit i = true then s i else 0 := by rw [HSV.out.1]; rfl
          have hnv : vi (i + 1) = vi i + if m.testBit i = true then v i else 0 := by rw [HSV.out.2]; rfl
          have hadd := fun w => addF w (vi i) (v i) (by omega)
          have HN2 : Hid (_) := And.intro hns hnv
          clear hL hI hB hs hv hns hnv
          generalize s i = sx at *
          generalize v i = vx at *
          generalize si i = sk at *
          generalize vi i = vk at *
          cases hb : m.testBit i with
          | true =>
            rw [hb] at hbit HN2
            go_wp2_with fail
            go_roundw
            case rel => exact ⟨i + 1, by omega, by go_num, by rw [HN2.out.1, if_pos rfl]; go_num, by rw [HN2.out.2, if_pos rfl], by first | rfl | trivial⟩
            case measure => simp [intOf]; omega
          | false =>
            rw [hb] at hbit HN2
            go_wp2_with fail
            go_roundw
            case rel => exact ⟨i + 1, by omega, by go_num, by rw [HN2.out.1, if_neg (by simp)]; rfl, by rw [HN2.out.2, if_neg (by simp)]; rfl, by first | rfl | trivial⟩
            case measure => simp [intOf]; omega
        · obtain rfl : i = n := by omega
          have d1 : ¬ (i : Int) < (i : Int) := by omega
          have hvb := on_bd m.testBit v 9 hv i
          rw [← HSV.out.2] at hvb
          have hsb := on_bd m.testBit s 7 (fun i => (hs i).2) i
          rw [← HSV.out.1] at hsb
          have hnx : bg (m + 1) = if si i ≤ cap ∧ bg m < vi i then vi i else bg m := by rw [HG.out, HSV.out.1, HSV.out.2]; rfl
          have hbd : bg (m + 1) < 1000 := by rw [HG.out]; exact bf_bd s v i cap hn hv _
          have HN3 : Hid (_) := And.intro hnx hbd
          clear hL hI hB hs hv hnx hbd HSV
          generalize si i = sk at *
          generalize vi i = vk at *
          generalize bg m = bm at *
          have hK8 := HK8.out
          clear HK8
          by_cases h1 : sk ≤ cap
          · have g1 : (sk : Int) ≤ (cap : Int) := by omega
            by_cases h2 : bm < vk
            · have ho := ord_gt vk bm h2 (by omega)
              go_wp2_with fail
              go_roundw
              case rel => exact ⟨m + 1, by omega, by go_num, by rw [HN3.out.1, if_pos ⟨h1, h2⟩], HN3.out.2, by first | rfl | trivial⟩
              case measure => simp [intOf]; omega
            · have ho : FloatKind.f64.format.order (W vk) (W bm) = some .lt ∨ FloatKind.f64.format.order (W vk) (W bm) = some .eq := by
                rcases Nat.lt_or_ge vk bm with h | h
                · exact Or.inl (ord_lt _ _ h (by omega))
                · have e : vk = bm := by omega
                  rw [e]; exact Or.inr (ord_eq _ (by omega))
              rcases ho with ho | ho
              all_goals
                go_wp2_with fail
                go_roundw
                case rel => exact ⟨m + 1, by omega, by go_num, by rw [HN3.out.1, if_neg (fun h => h2 h.2)], HN3.out.2, by first | rfl | trivial⟩
                case measure => simp [intOf]; omega
          · have g1 : ¬ (sk : Int) ≤ (cap : Int) := by omega
            go_wp2_with fail
            go_roundw
            case rel => exact ⟨m + 1, by omega, by go_num, by rw [HN3.out.1, if_neg (fun h => h1 h.1)], HN3.out.2, by first | rfl | trivial⟩
            case measure => simp [intOf]; omega
    · obtain rfl : m = N := by omega
      have b1 : ¬ (m : Int) < (m : Int) := by omega
      have hgot : bg m = got := by rw [HG.out, HN.out]; exact bf_best H0.out.2.2.1
      rw [hgot] at hbb ⊢
      have ho := ord_eq got (by omega)
      have hfr : ∀ (a : Act), a.tmps.size = 132 → a.defers = [] → a.tmps[7]?.getD undef = .int .i64 (n : Int) → a.tmps[9]?.getD undef = .slice (some ⟨go, 0, none⟩) n co → a.tmps[10]?.getD undef = .int .i64 (cap : Int) → a.tmps[11]?.getD undef = .float .f64 (W got) → a.tmps[12]?.getD undef = .slice p C.length cc → a.tmps[13]?.getD undef = .float .f64 (W got) → Code.wp Yba.prog ((Yba.f3.body.bind (at_ 25)).getD .skip) (bodyPost Yba.prog Yba.f3 Rr) a wr := fun a a1 a2 a3 a4 a5 a6 a7 a8 => by
        obtain ⟨hL, hI, hB, hs, hv⟩ := H0.out
        exact l3 go n co cap got cc p C s v a wr hL hI hB hn hs hv hcap a1 a2 a3 a4 a5 a6 a7 a8 HR.out
      have HF : Hid (_) := hfr
      clear hfr hgot
      go_wp2_with fail
      refine HK9.out _ _ ?_
      exact HF.out _ rfl rfl rfl rfl rfl rfl rfl rfl
end Go.Proofs.Ybulkbnbu.Kn
