/-
  notifyASPs.
-/
import Derived.Test.YbulkbndkDoorSrv
namespace Go.Proofs.YbulkbndkDoor.Pr
set_option linter.unusedSimpArgs false
set_option linter.unusedVariables false
open Go.ChangeShapes Go.WideShapes Go.ChangeAt Go.RowKit

theorem lit34 (b : Act) (g : Nat → Value) (hg : ∀ t, b.tmps[t]?.getD undef = g t) (hN : b.tmps.size = 34) (hd : b.defers = []) : b = { tmps := (g 0 :: g 1 :: g 2 :: g 3 :: g 4 :: g 5 :: g 6 :: g 7 :: g 8 :: g 9 :: g 10 :: g 11 :: g 12 :: g 13 :: g 14 :: g 15 :: g 16 :: g 17 :: g 18 :: g 19 :: g 20 :: g 21 :: g 22 :: g 23 :: g 24 :: g 25 :: g 26 :: g 27 :: g 28 :: g 29 :: g 30 :: g 31 :: g 32 :: g 33 :: []).toArray, defers := [] } := by
  obtain ⟨tm, df⟩ := b
  obtain rfl : df = [] := hd
  obtain rfl : (fun t => tm[t]?.getD undef) = g := funext hg
  exact congrArg (fun x => Act.mk x []) (tmps_eq hN)

theorem take_snoc {l : List Nat} {k : Nat} (hk : k < l.length) : l.take (k + 1) = l.take k ++ [l[k]] := by
  rw [List.take_add_one, List.getElem?_eq_getElem hk]; rfl

def F10 (sg A p : Nat) (sv mv : Value) (len k : Nat) (f : Act) : Prop :=
  f.tmps.size = 34 ∧ f.defers = [] ∧ f.tmps[1]?.getD undef = .pointer (some ⟨A, 0, none⟩) ∧ f.tmps[2]?.getD undef = .pointer (some ⟨p, 0, none⟩) ∧ f.tmps[3]?.getD undef = sv ∧ f.tmps[13]?.getD undef = mv ∧ f.tmps[14]?.getD undef = .int .i64 (len : Int) ∧ f.tmps[15]?.getD undef = .int .i64 (k : Int)

def I10 (B sg A p st : Nat) (s : Sv) (sv mv : Value) (flt : Nat → Bool) (S : SS) (w0 : World) (n : Nat) (f : Act) (w : World) : Prop :=
  ∃ k, k ≤ s.ms.length ∧ n = s.ms.length - k ∧ F10 sg A p sv mv s.ms.length k f ∧ BX B (feed flt st s.rc s.ss S (s.ms.take k)) w ∧ Fr B TB w0 w

set_option maxRecDepth 100000 in
set_option maxHeartbeats 4000000 in
theorem nasp_any (B sg A M p st sb sn : Nat) (sf : Nat → Value) (s : Sv) (hs : s.Ok) (af : Nat → Value) (sv : Value) (flt : Nat → Bool) (S : SS) (n0 : Nat) (hS : S.le n0) (hn0 : n0 ≤ 500000) (w : World) (hB : BX B S w) (hA : AsOk B s A af M w) (hP : Asps B w) (hm : IsMsg w p st s.rc) (hsr : w.rowIs sb 87 sn sf)
    (hC : ∀ k w', w'.rowIs sb 87 sn sf → Calls Ybad.prog 16 #[sv, .string (aspB k)] w' fun e w'' => e = .returned (.bool (flt k)) ∧ w'' = w') :
    Calls Ybad.prog 10 #[.pointer (some ⟨sg, 0, none⟩), .pointer (some ⟨A, 0, none⟩), .pointer (some ⟨p, 0, none⟩), sv] w fun e w' => e = .returned (.tuple #[]) ∧ BX B (feed flt st s.rc s.ss S s.ms) w' ∧ Fr B TB w w' := by
  have c8 := hA.row.cell (i := 8) (by omega)
  obtain ⟨ma, mc, hmv, hmc⟩ := own_shape hA.ms
  rw [hmv] at c8
  have hlen := hs.len
  have HA : Hid (AsOk B s A af M w) := hA
  have HP : Hid (Asps B w) := hP
  have HM : Hid (IsMsg w p st s.rc) := hm
  have HS : Hid (w.rowIs sb 87 sn sf) := hsr
  have HC : Hid (∀ k w', w'.rowIs sb 87 sn sf → Calls Ybad.prog 16 #[sv, .string (aspB k)] w' fun e w'' => e = .returned (.bool (flt k)) ∧ w'' = w') := hC
  have HB : Hid (BX B S w) := hB
  have HMC : Hid (∀ i u, (s.ms.map fun m => ptr (aspb B (m % 4)))[i]? = some u → ∃ b, ma = some ⟨b, 0, none⟩ ∧ w.cell? ⟨b, i, none⟩ = some u) := hmc
  have HMV : Hid (af 8 = .slice ma s.ms.length mc) := hmv
  have HSL : Hid (S.le n0) := hS
  clear hA hP hm hsr hC hB hmc hmv hS
  go_enter Ybad.func10, Ybad.ntmps10
  go_wp2_with fail
  refine wp_loop_ghost (I10 B sg A p st s sv (.slice ma s.ms.length mc) flt S w) s.ms.length ⟨0, Nat.zero_le _, rfl, ⟨rfl, rfl, rfl, rfl, rfl, rfl, rfl, rfl⟩, by simpa [feed] using HB.out, Fr.refl _ _ _⟩ ?_
  rintro n f w1 ⟨k, hk, rfl, ⟨hsz, hds, e1, e2, e3, e13, e14, e15⟩, hB1, hF1⟩
  obtain ⟨g, hg⟩ : ∃ g : Nat → Value, ∀ t, f.tmps[t]?.getD undef = g t := ⟨_, fun _ => rfl⟩
  rw [hg] at e1 e2 e3 e13 e14 e15
  rw [lit34 f g hg hsz hds, e1, e2, e3, e13, e14, e15]
  clear hg hsz hds e1 e2 e3 e13 e14 e15
  by_cases hlt : k < s.ms.length
  · have hI0 : (0 : Int) ≤ (k : Int) := by omega
    have hI1 : (k : Int) < (s.ms.length : Int) := by omega
    have hA1 := HA.out.fr hF1 (by decide) (by decide)
    have hP1 := HP.out.fr hF1 (by decide)
    have hm1 := HM.out.fr hF1 (by decide) (by decide) (by decide)
    have hs1 := hF1.row HS.out (by decide)
    obtain ⟨j, hjd⟩ : ∃ j, j = s.ms[k] % 4 := ⟨_, rfl⟩
    have hj : j < 4 := by omega
    obtain ⟨ma', mc', hmv', hmc'⟩ := own_shape hA1.ms
    rw [HMV.out] at hmv'
    obtain ⟨rfl, rfl⟩ : ma = ma' ∧ mc = mc' := by simpa using hmv'
    obtain ⟨b, rfl, hcb⟩ := hmc' k (ptr (aspb B j)) (by rw [List.getElem?_map, List.getElem?_eq_getElem hlt, hjd]; rfl)
    have c9 := hA1.row.cell (i := 9) (by omega)
    rw [hA1.mp] at c9
    have hlk := look_asp B M s.ss w1 hP1.blk hA1.map j hj
    obtain ⟨pf, hpf, hpf4⟩ := hP1 j hj
    have c4 := hpf.cell (i := 4) (by omega)
    rw [hpf4] at c4
    have hcall := HC.out (s.ss j) w1 hs1
    have hle := (feed_le (flt := flt) (st := st) (rc := s.rc) (ss := s.ss) (s.ms.take k) HSL.out)
    have htl : (s.ms.take k).length ≤ 256 := by rw [List.length_take]; omega
    have hsend := send_any B j p hj (feed flt st s.rc s.ss S (s.ms.take k)) (st, s.rc) w1 hB1 hm1 (by have := hle.1 j; omega) (by have := hle.2; omega)
    have hnext : feed flt st s.rc s.ss S (s.ms.take (k + 1)) = if flt (s.ss j) then (feed flt st s.rc s.ss S (s.ms.take k)).push j (st, s.rc) else feed flt st s.rc s.ss S (s.ms.take k) := by
      rw [take_snoc hlt, feed_snoc, hjd]
    have HSend : Hid (Calls Ybad.prog 17 #[.pointer (some ⟨asb B j, 0, none⟩), .pointer (some ⟨p, 0, none⟩)] w1 fun e' w' => e' = .returned (.tuple #[]) ∧ BX B ((feed flt st s.rc s.ss S (s.ms.take k)).push j (st, s.rc)) w' ∧ Fr B TB w1 w') := hsend
    have HN : Hid (feed flt st s.rc s.ss S (s.ms.take (k + 1)) = if flt (s.ss j) then (feed flt st s.rc s.ss S (s.ms.take k)).push j (st, s.rc) else feed flt st s.rc s.ss S (s.ms.take k)) := hnext
    have HCall : Hid (Calls Ybad.prog 16 #[sv, .string (aspB (s.ss j))] w1 fun e w'' => e = .returned (.bool (flt (s.ss j))) ∧ w'' = w1) := hcall
    have HB1 : Hid (BX B (feed flt st s.rc s.ss S (s.ms.take k)) w1) := hB1
    have HF1 : Hid (Fr B TB w w1) := hF1
    unfold ptr at hcb c4 hlk
    clear hA1 hP1 hm1 hs1 hjd hmc' hmv' hpf hpf4 hcall hle htl hsend hnext hB1 hF1
    cases hfl : flt (s.ss j)
    · have HFl : Hid (flt (s.ss j) = false) := hfl
      rw [hfl] at HCall
      clear hfl
      go_wp2_with fail
      refine HCall.out.mono ?_
      rintro e w2 ⟨rfl, rfl⟩
      go_wp2_with fail
      refine ⟨s.ms.length - (k + 1), by omega, k + 1, by omega, rfl, ⟨rfl, rfl, rfl, rfl, rfl, rfl, rfl, by first | rfl | go_num⟩, ?_, HF1.out⟩
      rw [HN.out, HFl.out]
      exact HB1.out
    · have HFl : Hid (flt (s.ss j) = true) := hfl
      rw [hfl] at HCall
      clear hfl
      go_wp2_with fail
      refine HCall.out.mono ?_
      rintro e w2 ⟨rfl, rfl⟩
      go_wp2_with fail
      refine HSend.out.mono ?_
      rintro e w3 ⟨rfl, hB3, hF3⟩
      have HB3 : Hid (BX B ((feed flt st s.rc s.ss S (s.ms.take k)).push j (st, s.rc)) w3) := hB3
      have HF3 : Hid (Fr B TB w w3) := HF1.out.trans hF3
      clear hB3 hF3 HF1
      go_wp2_with fail
      refine ⟨s.ms.length - (k + 1), by omega, k + 1, by omega, rfl, ⟨rfl, rfl, rfl, rfl, rfl, rfl, rfl, by first | rfl | go_num⟩, ?_, HF3.out⟩
      rw [HN.out, HFl.out]
      exact HB3.out
  · obtain rfl : k = s.ms.length := by omega
    have hI1 : ¬ (s.ms.length : Int) < (s.ms.length : Int) := by omega
    rw [List.take_length] at hB1
    have HB1 : Hid (BX B (feed flt st s.rc s.ss S s.ms) w1) := hB1
    have HF1 : Hid (Fr B TB w w1) := hF1
    clear hB1 hF1
    go_wp2_with fail
    go_returns
    exact ⟨rfl, HB1.out, HF1.out⟩
end Go.Proofs.YbulkbndkDoor.Pr
