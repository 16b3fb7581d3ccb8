/-
  Best (function 7), whole.
-/
import Derived.Test.YbulkbnbuT1
namespace Go.Proofs.Ybulkbnbu.Kn
set_option linter.unusedSimpArgs false
set_option linter.unusedVariables false
open Go.ChangeShapes Go.WideShapes Go.ChangeAt Go.RowKit
open Go.Proofs.Ybulkbnbu.Fl Go.Proofs.Ybulkbnbu.Pl Go.Sort
attribute [local go_sem] run_store_float

def BestP (s v : Nat → Nat) (n cap : Nat) (w : World) (e : Ending) (w' : World) : Prop := ∃ got C, BestOk s v n cap got C ∧ Bested got C 0 e w' ∧ Keeps (fun _ => False) w w'

set_option maxRecDepth 100000 in
set_option maxHeartbeats 8000000 in
theorem best_over (ib n c cap : Nat) (s v : Nat → Nat) (w : World) (hI : Itm w ib n s v) (hib : ib < w.heap.size) (hn : n ≤ 12) (hs : ∀ i, 1 ≤ s i ∧ s i ≤ 7) (hv : ∀ i, v i ≤ 9) (hcap : cap ≤ 47) (hover : cap < sm s n) :
    Calls Yba.prog 7 #[.slice (some ⟨ib, 0, none⟩) n c, .int .i64 (cap : Int)] w (BestP s v n cap w) := by
  have hn0 : 0 < n := by
    apply Nat.pos_of_ne_zero
    intro e; rw [e] at hover; simp [sm] at hover
  have H0 : Hid (_) := And.intro hI (And.intro hs hv)
  clear hI hs hv
  go_enter Yba.func7, Yba.ntmps7
  go_wp2
  rename_i K9 hK9
  have HK9 : Hid (_) := hK9
  clear hK9
  go_loopw [6, 7, 9, 35] (fun r t _ i wr => ∃ k : Nat, k ≤ n ∧ i = .int .i64 (k : Int) ∧ sm s k ≤ cap ∧ r = .int .i64 ((cap - sm s k : Nat) : Int) ∧ t = .float .f64 (W (sm v k)) ∧ Keeps (fun _ => False) w wr) (fun _ _ _ i _ => n - (intOf i).toNat)
  case atStart => exact ⟨0, Nat.zero_le _, rfl, by simp [sm], by simp [sm], rfl, Keeps.refl _ _⟩
  case round =>
    obtain ⟨k, hk, rfl, hle, rfl, rfl, hkp⟩ := hrel
    obtain ⟨hI, hs, hv⟩ := H0.out
    by_cases hlt : k < n
    · have c0 := hkp.cell (hI k hlt).1 (fun h => h)
      have c1 := hkp.cell (hI k hlt).2 (fun h => h)
      have hsb := hs k
      have hvb := hv k
      have hsm := sm_bd v hv k
      have b1 : (k : Int) < (n : Int) := by omega
      have b2 : (0 : Int) ≤ (k : Int) := by omega
      have HS1 : Hid (sm s (k + 1) = sm s k + s k) := rfl
      have HV1 : Hid (sm v (k + 1) = sm v k + v k) := rfl
      have hadd := fun w => addF w (sm v k) (v k) (by omega)
      have HK : Hid (_) := hkp
      clear hkp hI hs hv
      generalize s k = sk at *
      generalize v k = vk at *
      by_cases hbr : sk ≤ cap - sm s k
      · have b3 : ¬ ((cap - sm s k : Nat) : Int) < (sk : Int) := by omega
        have b4 : ((cap - sm s k : Nat) : Int) - (sk : Int) = ((cap - sm s (k + 1) : Nat) : Int) := by rw [HS1.out]; omega
        have b5 : sm s (k + 1) ≤ cap := by rw [HS1.out]; omega
        have b6 : cap - sm s k ≤ 47 := by omega
        have b7 : cap - sm s (k + 1) ≤ 47 := by omega
        generalize cap - sm s k = rm at *
        generalize hrm2 : cap - sm s (k + 1) = rm2 at *
        have HRM : Hid (_) := hrm2
        clear hrm2
        go_wp2
        go_roundw
        case rel => exact ⟨k + 1, by omega, by go_num, b5, by rw [HRM.out], by rw [HV1.out], HK.out.alloc _⟩
        case measure => simp [intOf]; omega
      · have b3 : ((cap - sm s k : Nat) : Int) < (sk : Int) := by omega
        generalize cap - sm s k = rm at *
        have hfr : ∀ (a : Act) (o : Obj), a.tmps.size = 222 → a.defers = [] → a.tmps[0]?.getD undef = .slice (some ⟨ib, 0, none⟩) n c → a.tmps[1]?.getD undef = .int .i64 (cap : Int) → a.tmps[6]?.getD undef = .int .i64 (-1) → Code.wp Yba.prog ((Yba.f7.body.bind (at_ 10)).getD .skip) (bodyPost Yba.prog Yba.f7 (BestP s v n cap w)) a (wr.alloc o) := fun a o a1 a2 a3 a4 a5 => by
          obtain ⟨hI, hs, hv⟩ := H0.out
          have hk2 := HK.out.alloc o
          refine t1 ib n c cap s v a (wr.alloc o) (Itm.keep hI hk2 (fun h => h)) (by have := hk2.size; omega) hn0 hn hs hv hcap a1 a2 a3 a4 a5 ?_
          intro e w' got C h1 h2 h3
          exact ⟨got, C, h1, h2.mono (Nat.zero_le _), hk2.trans h3 (fun _ _ h => h)⟩
        go_wp2
        refine HK9.out _ _ ?_
        exact hfr _ _ rfl rfl rfl rfl rfl
    · have e : k = n := by omega
      subst e
      omega

theorem best_any (ib n cap : Nat) (s v : Nat → Nat) (w : World) (hrow : w.rowIs ib 28 (n * 2) (itemF (fun i => (s i : Int)) v)) (hn : n ≤ 12) (hs : ∀ i, 1 ≤ s i ∧ s i ≤ 7) (hv : ∀ i, v i ≤ 9) (hcap : cap ≤ 47) :
    Calls Yba.prog 7 #[.slice (some ⟨ib, 0, none⟩) n n, .int .i64 (cap : Int)] w (BestP s v n cap w) := by
  have hI : Itm w ib n s v := fun i hi => ⟨by rw [hrow.cell (i := i * 2) (by omega), item_at0], by rw [hrow.cell (i := i * 2 + 1) (by omega), item_at1]⟩
  by_cases hover : cap < sm s n
  · exact best_over ib n n cap s v w hI hrow.lt hn hs hv hcap hover
  · have e1 : ∀ k, sumZ (fun i => (s i : Int)) k = ((sm s k : Nat) : Int) := fun k => by
      induction k with
      | zero => rfl
      | succ k ih => simp only [sumZ, sm, ih]; omega
    have e2 : ∀ k, sumN v k = sm v k := fun k => by
      induction k with
      | zero => rfl
      | succ k ih => simp only [sumN, sm, ih]
    refine (best_fit ib n (cap : Int) (fun i => (s i : Int)) v w hrow (by omega) (fun i => by have := hs i; omega) hv (by rw [e1]; omega) (by omega)).mono ?_
    rintro e w' ⟨h, rfl, hr, hb⟩
    refine ⟨_, _, fits s v n cap (by omega), ⟨some ⟨h, 0, none⟩, n, by rw [e2, List.length_range], fun _ => ⟨h, rfl, ?_, hr.lt, fun j y hj => ?_⟩⟩, ⟨hb.os, hb.tape, hb.output, hb.size, fun k hk _ => hb.block k hk⟩⟩
    · exact Nat.zero_le _
    · obtain ⟨hl, he⟩ := List.getElem?_eq_some_iff.1 hj
      simp at hl he
      subst he
      exact hr.cell hl
end Go.Proofs.Ybulkbnbu.Kn
