/-
  'zzs3191bcheck' (function 8), the whole function.
-/
import Derived.Test.YbulkbnbgDoorChkC
namespace Go.Proofs.YbulkbnbgDoor.Pr
set_option linter.unusedSimpArgs false
open Go.ChangeShapes Go.WideShapes Go.ChangeAt Go.RowKit

def Z10 (c : Cfg) (rB : Nat) (r : Nat → Nat → Bool) (w1 : World) (m : Nat) (f : Act) (w : World) : Prop :=
  ∃ a, a ≤ c.n ∧ m = c.n - a ∧ Fw2 c rB (cnt r c.n a) a f ∧ w = w1
theorem cnt_le (r : Nat → Nat → Bool) (n : Nat) : ∀ a, cnt r n a ≤ a * n
  | 0 => by simp [cnt]
  | a + 1 => by
    have h1 := cnt_le r n a
    have h2 := cntRow_le r a n
    unfold cnt
    rw [Nat.succ_mul]
    omega

set_option maxRecDepth 100000 in
set_option maxHeartbeats 4000000 in
theorem check10 {Q : Exit → Act → World → Prop} (c : Cfg) (s : PS) (rB : Nat) (r : Nat → Nat → Bool) (w1 : World) (hS : St c s w1) (hB : Bm c.n rB r w1) (hq : ∀ x y, x < c.n → y < c.n → R c s.Mb x y = r x y ∧ R c s.Ma y x = r x y) (f : Act)
    (hF : Z10 c rB r w1 c.n f w1)
    (hnext : ∀ f', Fw2 c rB (cnt r c.n c.n) c.n f' → Q (.exit 10) f' w1) :
    Code.wp Ybad.prog ((Ybad.f8.body.bind (blk 10)).getD .skip) Q f w1 := by
  conv => arg 2; whnf
  refine wp_loop_ghost (Z10 c rB r w1) c.n hF ?_
  clear hF f
  rintro m f w ⟨a, ha, rfl, ⟨hsz, hds, e0, e1, e9, e16, e17, e18⟩, rfl⟩
  obtain ⟨g, hg⟩ : ∃ g : Nat → Value, ∀ t, f.tmps[t]?.getD undef = g t := ⟨_, fun _ => rfl⟩
  rw [hg] at e0 e1 e9 e16 e17 e18
  rw [lit218 f g hg hsz hds, e0, e1, e9, e16, e17, e18]
  clear hg hsz hds e0 e1 e9 e16 e17 e18
  have hn2 := hS.ok.n80
  by_cases hl : a < c.n
  · have hI1 : (a : Int) < (c.n : Int) := by omega
    have hcb : cnt r c.n a ≤ 6400 := Nat.le_trans (cnt_le r c.n a) (Nat.mul_le_mul (by omega : a ≤ 80) hn2)
    have HS : Hid (St c s w) := hS
    have HB : Hid (_) := hB
    clear hS hB
    go_wp2_with fail
    refine check12 (Q := _) c s rB r w HS.out HB.out hq (cnt r c.n a) a hcb hl _ ⟨0, Nat.zero_le _, rfl, ⟨rfl, rfl, rfl, rfl, rfl, rfl, rfl, rfl⟩, rfl, rfl⟩ ?_
    rintro f' ⟨hsz, hds, e0, e1, e9, e16, e17, e18⟩
    obtain ⟨g', hg'⟩ : ∃ g : Nat → Value, ∀ t, f'.tmps[t]?.getD undef = g t := ⟨_, fun _ => rfl⟩
    rw [hg'] at e0 e1 e9 e16 e17 e18
    rw [lit218 f' g' hg' hsz hds, e0, e1, e9, e16, e17, e18]
    clear hg' hsz hds e0 e1 e9 e16 e17 e18
    go_wp2_with fail
    exact ⟨c.n - (a + 1), by omega, a + 1, by omega, rfl, ⟨rfl, rfl, rfl, rfl, rfl, rfl, by first | rfl | go_num, by first | rfl | go_num⟩, rfl⟩
  · obtain rfl : a = c.n := by omega
    have hI1 : ¬ (c.n : Int) < (c.n : Int) := by omega
    clear hS hB hq
    go_wp2_with fail
    first | exact hnext _ ⟨rfl, rfl, rfl, rfl, rfl, rfl, rfl, rfl⟩ | exact ⟨rfl, rfl, rfl, rfl, rfl, rfl, rfl, rfl⟩

theorem info4 : (Ybad.prog.info? 4).map (fun i => (i.zero, i.size, i.bytes)) = some (some (.bool false), 1, 1) := by kernel_rfl

/-- How the search must stand to the logged arcs. -/
def Good (c : Cfg) (ps : List (Nat × Nat)) (s : PS) (w : World) : Prop :=
  (Live c (Tc fun x y => (x, y) ∈ ps) s w ∧ ∀ x y, (x, y) ∈ ps → R c s.Mb x y = true) ∨ (w.rowIs c.P 51 34 (pcell c s) ∧ s.broken = true ∧ ∃ x, Tc (fun x y => (x, y) ∈ ps) x x)

set_option maxRecDepth 100000 in
set_option maxHeartbeats 4000000 in
theorem check_any (c : Cfg) (hn2 : c.n ≤ 80) (ps : List (Nat × Nat)) (hps : ps.length ≤ 4096) (hlt : ∀ p ∈ ps, p.1 < c.n ∧ p.2 < c.n) (vu vv : Value) (s : PS) (w : World) (hRd : Rd ps vu vv w) (hg : Good c ps s w) :
    Calls Ybad.prog 8 #[.pointer (some ⟨c.P, 0, none⟩), .int .i64 (c.n : Int), vu, vv] w fun e w' => e = .returned (.bool true) ∧ Keeps (fun _ => False) w w' := by
  have hE : ∀ x y, (x, y) ∈ ps → x < c.n ∧ y < c.n := fun x y h => hlt _ h
  obtain ⟨N2, hN2⟩ : ∃ N, N = c.n * c.n := ⟨_, rfl⟩
  have hNi : (c.n : Int) * (c.n : Int) = (N2 : Int) := by rw [hN2]; push_cast; rfl
  have hNb : N2 ≤ 6400 := by rw [hN2]; exact Nat.mul_le_mul hn2 hn2
  obtain ⟨i0, hi0, hz0, hs0, hby0⟩ := info_parts info4
  have hr := run_make_row (P := Ybad.prog) 57 4 i0 _ Ybad.underlying57 hi0 hz0 hs0 rfl .i64 .i64 N2 (by rw [hby0]; omega) (by omega) w
  have HR : Hid (_) := hRd
  have HG : Hid (Good c ps s w) := hg
  have HN2 : Hid (_) := hN2
  clear hRd hg hN2
  go_enter Ybad.func8, Ybad.ntmps8
  go_wp2_with fail
  rename_i K hKont
  obtain rfl : N2 = c.n * c.n := HN2.out
  clear HN2 hr
  have hub : ∀ k, vu.ownBlock = some k → k < w.heap.size := fun k hk => ownsRow_lt HR.out.1 k hk
  have hvb : ∀ k, vv.ownBlock = some k → k < w.heap.size := fun k hk => ownsRow_lt HR.out.2 k hk
  refine check0 (Q := _) c.P c.n hn2 ps hps hlt vu vv w.heap.size w HR.out (fun e => by have := hub _ e; omega) (fun e => by have := hvb _ e; omega) _ _ ⟨rfl, rfl, rfl, rfl, rfl, rfl, rfl⟩ rfl (World.rowIs_made w (.bool false) (c.n * c.n) 4) ((Keeps.refl _ _).alloc _) ?_
  rintro f1 w1 ⟨hsz, hds, e0, e1, e2, e3, e9⟩ hB1 hK1
  obtain ⟨g, hg⟩ : ∃ g : Nat → Value, ∀ t, f1.tmps[t]?.getD undef = g t := ⟨_, fun _ => rfl⟩
  rw [hg] at e0 e1 e2 e3 e9
  rw [lit218 f1 g hg hsz hds, e0, e1, e2, e3, e9]
  clear hg hsz hds e0 e1 e2 e3 e9
  refine hKont _ _ ?_
  clear hKont
  have hW0 : Fw c.n (fun x y => (x, y) ∈ ps) 0 (fun x y => decide ((x, y) ∈ ps)) := ⟨fun x y _ _ h => Tc.one (of_decide_eq_true h), fun x y h => decide_eq_true h, fun m x y hm => absurd hm (by omega)⟩
  have HB1 : Hid (_) := hB1
  have HK1 : Hid (_) := hK1
  have HW0 : Hid (_) := hW0
  clear hB1 hK1 hW0
  go_wp2_with fail
  rename_i K hKont
  refine check2 (Q := _) c.P c.n hn2 (fun x y => (x, y) ∈ ps) hE vu vv w.heap.size w _ _ ⟨0, (fun x y => decide ((x, y) ∈ ps)), Nat.zero_le _, rfl, ⟨rfl, rfl, rfl, rfl, rfl, rfl, rfl⟩, rfl, HB1.out, HW0.out, HK1.out⟩ ?_
  rintro f2 w2 r ⟨hsz, hds, e0, e1, e2, e3, e9⟩ hB2 hW hK2
  obtain ⟨g, hg⟩ : ∃ g : Nat → Value, ∀ t, f2.tmps[t]?.getD undef = g t := ⟨_, fun _ => rfl⟩
  rw [hg] at e0 e1 e2 e3 e9
  rw [lit218 f2 g hg hsz hds, e0, e1, e2, e3, e9]
  clear hg hsz hds e0 e1 e2 e3 e9 HB1 HK1 HW0
  refine hKont _ _ ?_
  clear hKont
  have HB2 : Hid (_) := hB2
  have HK2 : Hid (_) := hK2
  have HW : Hid (_) := hW
  clear hB2 hK2 hW
  go_wp2_with fail
  rename_i K hKont
  refine check8 (Q := _) c.P c.n hn2 vu vv w.heap.size r w2 HB2.out _ ⟨0, Nat.zero_le _, rfl, ⟨rfl, rfl, rfl, rfl, rfl, rfl, rfl⟩, rfl, rfl, rfl⟩ ?_
  rintro f3 ⟨hsz, hds, e0, e1, e2, e3, e9⟩ e14
  obtain ⟨g, hg⟩ : ∃ g : Nat → Value, ∀ t, f3.tmps[t]?.getD undef = g t := ⟨_, fun _ => rfl⟩
  rw [hg] at e0 e1 e2 e3 e9 e14
  rw [lit218 f3 g hg hsz hds, e0, e1, e2, e3, e9, e14]
  clear hg hsz hds e0 e1 e2 e3 e9 e14
  refine hKont _ _ ?_
  clear hKont
  have HKF : Hid (Keeps (fun _ => False) w w2) := HK2.out.mono (fun j hj e => by omega)
  rcases HG.out with ⟨hL, hR⟩ | ⟨hp, hbr, x, hx⟩
  · have hcy : cyc r c.n = false := by
      cases hc : cyc r c.n with
      | false => rfl
      | true =>
        obtain ⟨x, hx, hr⟩ := (cyc_iff r c.n).1 hc
        exact absurd ((HW.out.done hE hx hx).1 hr) (hL.acyclic hE hR hx)
    rw [hcy]
    have hS2 : St c s w2 := hL.st.keeps HKF.out fun _ _ h => h
    have hq : ∀ x y, x < c.n → y < c.n → R c s.Mb x y = r x y ∧ R c s.Ma y x = r x y := by
      intro x y hx hy
      have h1 := hL.closure hE hR hx hy
      have h2 := HW.out.done hE hx hy
      have e : R c s.Mb x y = r x y := by
        rw [Bool.eq_iff_iff]; exact h1.trans h2.symm
      exact ⟨e, (hL.inv.sym x y hx hy).trans e⟩
    have hcn := hL.inv.count hL.st.ok r fun x y hx hy => (hq x y hx hy).1
    have h33 := pc33 hS2.p
    rw [hL.ok] at h33
    have h1 := pc1 hS2.p
    have h8 := pc8 hS2.p
    have h9 := pc9 hS2.p
    have h10 := pc10 hS2.p
    rw [hL.hd] at h10
    obtain ⟨ao, cap, htv⟩ := trail_len hL.st
    rw [htv] at h8
    have hlen := (hL.inv.len hL.st.ok).2
    have HS2 : Hid (_) := hS2
    have HQ : Hid (_) := hq
    have HCN : Hid (_) := hcn
    clear hS2 hq hL hR hcn hcy htv HG HR
    generalize s.tr.length = tl at *
    go_wp2_with fail
    rename_i K hKont
    refine check10 (Q := _) c s w.heap.size r w2 HS2.out HB2.out HQ.out _ ⟨0, Nat.zero_le _, rfl, ⟨rfl, rfl, rfl, rfl, rfl, rfl, rfl, rfl⟩, rfl⟩ ?_
    rintro f4 ⟨hsz, hds, e0, e1, e9, e16, e17, e18⟩
    obtain ⟨g, hg⟩ : ∃ g : Nat → Value, ∀ t, f4.tmps[t]?.getD undef = g t := ⟨_, fun _ => rfl⟩
    rw [← HCN.out] at e17
    rw [hg] at e0 e1 e9 e16 e17 e18
    rw [lit218 f4 g hg hsz hds, e0, e1, e9, e16, e17, e18]
    clear hg hsz hds e0 e1 e9 e16 e17 e18 HCN HQ HS2 HB2 HW
    refine hKont _ _ ?_
    clear hKont
    have hd : decide ((tl : Int) = (tl : Int)) = true := by simp
    go_wp2_with fail
    go_quiet (fail)
    go_wp2_with fail
    go_ret
    exact ⟨rfl, HKF.out.drewN _⟩
  · have hcy : cyc r c.n = true := (cyc_iff r c.n).2 ⟨x, (Tc.lt hE hx).1, (HW.out.done hE (Tc.lt hE hx).1 (Tc.lt hE hx).1).2 hx⟩
    rw [hcy]
    have hp2 : w2.rowIs c.P 51 34 (pcell c s) := hp.of_block (HKF.out.block c.P hp.lt (fun h => h))
    have h33 := pc33 hp2
    rw [hbr] at h33
    clear hp hp2 HG HR HB2 HW
    go_wp2_with fail
    go_ret
    exact ⟨rfl, HKF.out⟩
end Go.Proofs.YbulkbnbgDoor.Pr
