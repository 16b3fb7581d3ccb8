/-
  'LawS3191BGrow' (function 4).
-/
import Derived.Test.YbulkbnbgDoorLawB
namespace Go.Proofs.YbulkbnbgDoor.Pr
set_option linter.unusedSimpArgs false
open Go.ChangeShapes Go.WideShapes Go.ChangeAt Go.RowKit

set_option maxRecDepth 100000 in
set_option maxHeartbeats 4000000 in
theorem law4 (N : Nat) (a : Option Addr) (len cap : Nat) (x y : Nat → Nat) (a2 : Option Addr) (len2 cap2 : Nat) (x2 y2 : Nat → Nat) (w : World) (hTab : Tab w) (hsrc : Src2 (fun k => w.heap.size ≤ k) w a len x y) (hsrc2 : Src2 (fun k => w.heap.size ≤ k) w a2 len2 x2 y2) :
    Calls Ybad.prog 4 #[.int .u8 (N : Int), .slice a len cap, .slice a2 len2 cap2] w fun e w' => e = .returned (.bool true) ∧ Keeps (fun _ => False) w w' := by
  by_cases hlen : 1024 < len
  · have hI : (1024 : Int) < (len : Int) := by omega
    go_enter Ybad.func4, Ybad.ntmps4
    go_wp2_with fail
    go_ret
    exact ⟨rfl, Keeps.refl _ _⟩
  by_cases hlen2 : 1024 < len2
  · have hI : ¬ (1024 : Int) < (len : Int) := by omega
    have hI2 : (1024 : Int) < (len2 : Int) := by omega
    go_enter Ybad.func4, Ybad.ntmps4
    go_wp2_with fail
    go_ret
    exact ⟨rfl, Keeps.refl _ _⟩
  · have hI : ¬ (1024 : Int) < (len : Int) := by omega
    have hI2 : ¬ (1024 : Int) < (len2 : Int) := by omega
    obtain ⟨n, hn⟩ : ∃ n, n = 1 + N % 80 := ⟨_, rfl⟩
    have hni : 1 + (N : Int) % 80 = (n : Int) := by omega
    have h1 : 1 ≤ n := by omega
    have h80 : n ≤ 80 := by omega
    clear hn
    go_enter Ybad.func4, Ybad.ntmps4
    go_wp2_with fail
    refine (new_any n h1 h80 w).mono ?_
    rintro e w1 ⟨c, rfl, rfl, s, hS, hFr, hlow, hK1⟩
    have HS : Hid (_) := hS
    have HFr : Hid (Fresh c s) := hFr
    have HK1 : Hid (_) := hK1
    have HLo : Hid (_) := hlow
    clear hS hFr hK1 hlow
    go_wp2_with fail
    rename_i K hKont
    refine gr_region4 c.n h80 _ _ rfl rfl rfl ?_
    intro f' w2 γ hsz hds hold hG hK2
    obtain ⟨gB, S, hv, hAll⟩ := All.start hTab HS.out HFr.out HLo.out HK1.out hG hK2
    have e1 : f'.tmps[1]?.getD undef = .slice a len cap := hold 1 (by omega) (by omega)
    have e2 : f'.tmps[2]?.getD undef = .slice a2 len2 cap2 := hold 2 (by omega) (by omega)
    have e7 : f'.tmps[7]?.getD undef = .int .i64 (c.n : Int) := hold 7 (by omega) (by omega)
    have e8 : f'.tmps[8]?.getD undef = .pointer (some ⟨c.P, 0, none⟩) := hold 8 (by omega) (by omega)
    obtain ⟨g, hg⟩ : ∃ g : Nat → Value, ∀ t, f'.tmps[t]?.getD undef = g t := ⟨_, fun _ => rfl⟩
    rw [hg] at e1 e2 e7 e8 hv
    rw [lit65 f' g hg hsz hds, e1, e2, e7, e8, hv]
    have hKB2 : Keeps (fun k => w.heap.size ≤ k) w w2 := (HK1.out.trans hK2 fun _ _ h => h).mono fun _ _ h => h.elim
    clear hg hsz hds e1 e2 e7 e8 hv hold hG hK2 HS HFr HK1 HLo hni
    refine hKont _ _ ?_
    clear hKont
    have HA : Hid (_) := hAll
    have HK : Hid (_) := hKB2
    clear hAll hKB2
    go_wp2_with fail
    refine (arcs_any c.n gB S h1 h80 [] (by simp) x y a len cap (by omega) _ _ _ w2 HA.out.lg (hsrc.to HK.out HA.out.ad)).mono ?_
    rintro e w3 ⟨vu, vv, rfl, sv, hL3, hF3⟩
    rw [List.nil_append] at hL3
    have hA3 := HA.out.arcs hL3 hF3
    have hK3 : Keeps (fun k => w.heap.size ≤ k) w w3 := HK.out.trans (hF3.1.mono fun k _ hk => HA.out.ad k hk) fun _ _ h => h
    have HA3 : Hid (_) := hA3
    have HK3 : Hid (_) := hK3
    clear hA3 hK3 hL3 hF3 HA HK
    have hll := logs_len c.n x y len
    have hlt : ∀ p, p ∈ logs c.n x y len → p.1 < c.n ∧ p.2 < c.n := fun p hp => ⟨(logs_mem (by omega) x y len p hp).1, (logs_mem (by omega) x y len p hp).2.1⟩
    generalize logs c.n x y len = ps at *
    go_wp2_with fail
    obtain ⟨s0, hC, h0⟩ := HA3.out.catch (fun p hp => by cases hp)
    refine (catch_any c HA3.out.ok _ Tc.trans s0 w3 (adjOf ps) gB S sv HA3.out.lg.gr (fun k hk ho => (h0 k ho).2 (Or.inl hk)) (fun u v _ hv => Tc.one (mem_adj.1 hv)) w3 hC).mono ?_
    rintro e w4 ⟨rfl, hC4⟩
    obtain ⟨hA4, ⟨s4, hG4⟩, hK4⟩ := HA3.out.caught h0 hlt hC4
    have hK4' : Keeps (fun k => w.heap.size ≤ k) w w4 := HK3.out.trans hK4 fun k _ hk => (h0 k hk).1
    have HA4 : Hid (_) := hA4
    have HG4 : Hid (Good c ps s4 w4) := hG4
    have HK4 : Hid (_) := hK4'
    clear hA4 hG4 hK4 hK4' hC hC4 h0 HA3 HK3
    go_wp2_with fail
    refine (check_any c h80 ps (by omega) hlt vu vv s4 w4 ⟨by have := HA4.out.lg.us; simpa using this, by have := HA4.out.lg.vs; simpa using this⟩ HG4.out).mono ?_
    rintro e w5 ⟨rfl, hK5⟩
    have hA5 := HA4.out.keeps hK5
    have HA5 : Hid (_) := hA5
    have HK5 : Hid (Keeps (fun k => w.heap.size ≤ k) w w5) := HK4.out.trans hK5 fun _ _ h => h.elim
    clear hK5 hA5 HA4 HG4 HK4
    go_wp2_with fail
    refine (arcs_any c.n gB S h1 h80 ps (by omega) x2 y2 a2 len2 cap2 (by omega) _ _ _ w5 HA5.out.lg (hsrc2.to HK5.out HA5.out.ad)).mono ?_
    rintro e w6 ⟨vu6, vv6, rfl, sv6, hL6, hF6⟩
    have hA6 := HA5.out.arcs hL6 hF6
    have hK6 : Keeps (fun k => w.heap.size ≤ k) w w6 := HK5.out.trans (hF6.1.mono fun k _ hk => HA5.out.ad k hk) fun _ _ h => h
    have HA6 : Hid (_) := hA6
    have HK6 : Hid (_) := hK6
    clear hA6 hK6 hL6 hF6 HA5 HK5
    have hll2 := logs_len c.n x2 y2 len2
    have hlt2 : ∀ p, p ∈ ps ++ logs c.n x2 y2 len2 → p.1 < c.n ∧ p.2 < c.n := fun p hp => by
      rcases List.mem_append.1 hp with hp | hp
      · exact hlt p hp
      · exact ⟨(logs_mem (by omega) x2 y2 len2 p hp).1, (logs_mem (by omega) x2 y2 len2 p hp).2.1⟩
    have hsub : ∀ p, p ∈ ps → p ∈ ps ++ logs c.n x2 y2 len2 := fun p hp => List.mem_append_left _ hp
    have hpl : (ps ++ logs c.n x2 y2 len2).length ≤ 4096 := by rw [List.length_append]; omega
    generalize ps ++ logs c.n x2 y2 len2 = qs at *
    go_wp2_with fail
    obtain ⟨s0, hC, h0⟩ := HA6.out.catch hsub
    refine (catch_any c HA6.out.ok _ Tc.trans s0 w6 (adjOf qs) gB S sv6 HA6.out.lg.gr (fun k hk ho => (h0 k ho).2 (Or.inl hk)) (fun u v _ hv => Tc.one (mem_adj.1 hv)) w6 hC).mono ?_
    rintro e w7 ⟨rfl, hC7⟩
    obtain ⟨hA7, ⟨s7, hG7⟩, hK7⟩ := HA6.out.caught h0 hlt2 hC7
    have hK7' : Keeps (fun k => w.heap.size ≤ k) w w7 := HK6.out.trans hK7 fun k _ hk => (h0 k hk).1
    have HA7 : Hid (_) := hA7
    have HG7 : Hid (Good c qs s7 w7) := hG7
    have HK7 : Hid (_) := hK7'
    clear hA7 hG7 hK7 hK7' hC hC7 h0 HA6 HK6
    go_wp2_with fail
    refine (check_any c h80 qs hpl hlt2 vu6 vv6 s7 w7 ⟨by have := HA7.out.lg.us; simpa using this, by have := HA7.out.lg.vs; simpa using this⟩ HG7.out).mono ?_
    rintro e w8 ⟨rfl, hK8⟩
    have HK8 : Hid (Keeps (fun k => w.heap.size ≤ k) w w8) := HK7.out.trans hK8 fun _ _ h => h.elim
    clear hK8 HA7 HG7 HK7
    go_wp2_with fail
    go_ret
    exact ⟨rfl, HK8.out.mono fun k hk h => by omega⟩
end Go.Proofs.YbulkbnbgDoor.Pr
