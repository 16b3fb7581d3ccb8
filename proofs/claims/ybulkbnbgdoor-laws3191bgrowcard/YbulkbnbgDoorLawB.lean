/-
  'LawS3191BClosure' (function 3).
-/
import Derived.Test.YbulkbnbgDoorLawA
namespace Go.Proofs.YbulkbnbgDoor.Pr
set_option linter.unusedSimpArgs false
open Go.ChangeShapes Go.WideShapes Go.ChangeAt Go.RowKit

/-- The start: a fresh search, an empty graph. -/
theorem All.start {c : Cfg} {s : PS} {w w1 w2 : World} {γ : Nat → Nat} {v : Value} (hTab : Tab w) (hS : St c s w1) (hF : Fresh c s) (hlow : ∀ k, own c none k → w.heap.size ≤ k) (hK1 : Keeps (fun _ => False) w w1) (hG : GrB c.n w1.heap.size γ w2 v) (hK2 : Keeps (fun _ => False) w1 w2) :
    ∃ gB S, v = .pointer (some ⟨gB, 0, none⟩) ∧ All c w.heap.size [] [] gB S (fun _ => .slice none 0 0) (.slice none 0 0) (.slice none 0 0) w2 := by
  obtain ⟨gB, S, hv, hL, hA⟩ := hG.lg
  have h0 : 0 < w.heap.size := by have := World.block_lt_of_cell? w _ (hTab 0 (by omega)); simp at this; omega
  have htv : s.tv.ownBlock = none := by rw [hF.tv]; rfl
  have hlt : ∀ k, own c none k → k < w1.heap.size := fun k hk => hS.own_lt k (own_mono hk)
  have hS2 : St c s w2 := hS.keeps hK2 fun _ _ h => h
  have hT2 : Tab w2 := (hTab.keeps hK1 (fun h => h)).keeps hK2 (fun h => h)
  have hno : ∀ k, own c none k → ¬ adblk c.n gB S (fun _ => .slice none 0 0) (.slice none 0 0) (.slice none 0 0) k := fun k hk ha => by
    have := hA k ha
    have := hlt k hk
    omega
  refine ⟨gB, S, hv, hS.ok, hL, hT2, fun k hk => ⟨hlow k hk, hno k hk, Nat.lt_of_lt_of_le (hlt k hk) hK2.size⟩, fun k hk => Nat.le_trans hK1.size (hA k hk), ?_, h0, Nat.le_trans hK1.size hK2.size⟩
  refine Or.inl ⟨s, ⟨hS2, hF.inv _, hT2, ⟨?_, fun g hg => ?_⟩, by rw [hF.head, hF.tr]; rfl, hF.ok⟩, fun k hk => ?_⟩
  · have : ∀ k, own c none k → 0 < k := fun k hk => by have := hlow k hk; omega
    exact ⟨this _ (by simp [own]), this _ (by simp [own]), this _ (by simp [own]), this _ (by simp [own]), this _ (by simp [own]), this _ (by simp [own]), this _ (by simp [own])⟩
  · rw [htv] at hg; cases hg
  · rw [htv] at hk; exact ⟨hlow k hk, hno k hk⟩

theorem Src2.to {w w' : World} {a : Option Addr} {len : Nat} {x y : Nat → Nat} {D : Nat → Prop} {B : Nat} (h : Src2 (fun k => B ≤ k) w a len x y) (hK : Keeps (fun k => B ≤ k) w w') (hD : ∀ k, D k → B ≤ k) : Src2 D w' a len x y := by
  intro i hi
  obtain ⟨b, off, ha, hb, hn, h1, h2, h3⟩ := h i hi
  have e := hK.block b hb hn
  exact ⟨b, off, ha, Nat.lt_of_lt_of_le hb hK.size, fun hd => hn (hD b hd), by rw [World.cell?_of_block e]; exact h1, by rw [World.cell?_of_block e]; exact h2, h3⟩

set_option maxRecDepth 100000 in
set_option maxHeartbeats 4000000 in
theorem law3 (N : Nat) (a : Option Addr) (len cap : Nat) (x y : Nat → Nat) (w : World) (hTab : Tab w) (hsrc : Src2 (fun k => w.heap.size ≤ k) w a len x y) :
    Calls Ybad.prog 3 #[.int .u8 (N : Int), .slice a len cap] w fun e w' => e = .returned (.bool true) ∧ Keeps (fun _ => False) w w' := by
  by_cases hlen : 1024 < len
  · have hI : (1024 : Int) < (len : Int) := by omega
    go_enter Ybad.func3, Ybad.ntmps3
    go_wp2_with fail
    go_ret
    exact ⟨rfl, Keeps.refl _ _⟩
  · have hI : ¬ (1024 : Int) < (len : Int) := by omega
    obtain ⟨n, hn⟩ : ∃ n, n = 1 + N % 80 := ⟨_, rfl⟩
    have hni : 1 + (N : Int) % 80 = (n : Int) := by omega
    have h1 : 1 ≤ n := by omega
    have h80 : n ≤ 80 := by omega
    clear hn
    go_enter Ybad.func3, Ybad.ntmps3
    go_wp2_with fail
    refine (new_any n h1 h80 w).mono ?_
    rintro e w1 ⟨c, rfl, rfl, s, hS, hFr, hlow, hK1⟩
    have HS : Hid (_) := hS
    have HFr : Hid (Fresh c s) := hFr
    have HK1 : Hid (_) := hK1
    have HLo : Hid (_) := hlow
    clear hS hFr hK1 hlow
    go_wp2_with fail
    rename_i K hKont
    refine gr_region3 c.n h80 _ _ rfl rfl rfl ?_
    intro f' w2 γ hsz hds hold hG hK2
    obtain ⟨gB, S, hv, hAll⟩ := All.start hTab HS.out HFr.out HLo.out HK1.out hG hK2
    have e1 : f'.tmps[1]?.getD undef = .slice a len cap := hold 1 (by omega) (by omega)
    have e5 : f'.tmps[5]?.getD undef = .int .i64 (c.n : Int) := hold 5 (by omega) (by omega)
    have e6 : f'.tmps[6]?.getD undef = .pointer (some ⟨c.P, 0, none⟩) := hold 6 (by omega) (by omega)
    obtain ⟨g, hg⟩ : ∃ g : Nat → Value, ∀ t, f'.tmps[t]?.getD undef = g t := ⟨_, fun _ => rfl⟩
    rw [hg] at e1 e5 e6 hv
    rw [lit40 f' g hg hsz hds, e1, e5, e6, hv]
    have hKB2 : Keeps (fun k => w.heap.size ≤ k) w w2 := (HK1.out.trans hK2 fun _ _ h => h).mono fun _ _ h => h.elim
    clear hg hsz hds e1 e5 e6 hv hold hG hK2 HS HFr HK1 HLo hni
    refine hKont _ _ ?_
    clear hKont
    have HA : Hid (_) := hAll
    have HK : Hid (_) := hKB2
    clear hAll hKB2
    go_wp2_with fail
    refine (arcs_any c.n gB S h1 h80 [] (by simp) x y a len cap (by omega) _ _ _ w2 HA.out.lg (hsrc.to HK.out HA.out.ad)).mono ?_
    rintro e w3 ⟨vu, vv, rfl, sv, hL3, hF3⟩
    rw [List.nil_append] at hL3
    have hA3 := HA.out.arcs hL3 hF3
    have hK3 : Keeps (fun k => w.heap.size ≤ k) w w3 := HK.out.trans (hF3.1.mono fun k _ hk => HA.out.ad k hk) fun _ _ h => h
    have HA3 : Hid (_) := hA3
    have HK3 : Hid (_) := hK3
    clear hA3 hK3 hL3 hF3 HA HK
    go_wp2_with fail
    obtain ⟨s0, hC, h0⟩ := HA3.out.catch (fun p hp => by cases hp)
    have hlt : ∀ p, p ∈ logs c.n x y len → p.1 < c.n ∧ p.2 < c.n := fun p hp => ⟨(logs_mem (by omega) x y len p hp).1, (logs_mem (by omega) x y len p hp).2.1⟩
    refine (catch_any c HA3.out.ok _ Tc.trans s0 w3 (adjOf (logs c.n x y len)) gB S sv HA3.out.lg.gr (fun k hk ho => (h0 k ho).2 (Or.inl hk)) (fun u v _ hv => Tc.one (mem_adj.1 hv)) w3 hC).mono ?_
    rintro e w4 ⟨rfl, hC4⟩
    obtain ⟨hA4, ⟨s4, hG4⟩, hK4⟩ := HA3.out.caught h0 hlt hC4
    have hK4' : Keeps (fun k => w.heap.size ≤ k) w w4 := HK3.out.trans hK4 fun k _ hk => (h0 k hk).1
    have HA4 : Hid (_) := hA4
    have HG4 : Hid (Good c (logs c.n x y len) s4 w4) := hG4
    have HK4 : Hid (_) := hK4'
    clear hA4 hG4 hK4 hK4' hC hC4 HA3 HK3
    go_wp2_with fail
    have hll := logs_len c.n x y len
    refine (check_any c h80 (logs c.n x y len) (by omega) hlt vu vv s4 w4 ⟨by have := HA4.out.lg.us; simpa using this, by have := HA4.out.lg.vs; simpa using this⟩ HG4.out).mono ?_
    rintro e w5 ⟨rfl, hK5⟩
    have HK5 : Hid (Keeps (fun k => w.heap.size ≤ k) w w5) := HK4.out.trans hK5 fun _ _ h => h.elim
    clear hK5 HA4 HG4 HK4
    go_wp2_with fail
    go_ret
    exact ⟨rfl, HK5.out.mono fun k hk h => by omega⟩
end Go.Proofs.YbulkbnbgDoor.Pr
