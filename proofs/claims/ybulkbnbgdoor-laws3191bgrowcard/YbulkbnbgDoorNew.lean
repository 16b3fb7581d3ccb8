/-
  'zzs3191bnew' (function 5), the whole function.
-/
import Derived.Test.YbulkbnbgDoorNewP
namespace Go.Proofs.YbulkbnbgDoor.Pr
set_option linter.unusedSimpArgs false
open Go.ChangeShapes Go.WideShapes Go.ChangeAt Go.RowKit

theorem lit79 (b : Act) (g : Nat → Value) (hg : ∀ t, b.tmps[t]?.getD undef = g t) (hN : b.tmps.size = 79) (hd : b.defers = []) : b = { tmps := (g 0 :: g 1 :: g 2 :: g 3 :: g 4 :: g 5 :: g 6 :: g 7 :: g 8 :: g 9 :: g 10 :: g 11 :: g 12 :: g 13 :: g 14 :: g 15 :: g 16 :: g 17 :: g 18 :: g 19 :: g 20 :: g 21 :: g 22 :: g 23 :: g 24 :: g 25 :: g 26 :: g 27 :: g 28 :: g 29 :: g 30 :: g 31 :: g 32 :: g 33 :: g 34 :: g 35 :: g 36 :: g 37 :: g 38 :: g 39 :: g 40 :: g 41 :: g 42 :: g 43 :: g 44 :: g 45 :: g 46 :: g 47 :: g 48 :: g 49 :: g 50 :: g 51 :: g 52 :: g 53 :: g 54 :: g 55 :: g 56 :: g 57 :: g 58 :: g 59 :: g 60 :: g 61 :: g 62 :: g 63 :: g 64 :: g 65 :: g 66 :: g 67 :: g 68 :: g 69 :: g 70 :: g 71 :: g 72 :: g 73 :: g 74 :: g 75 :: g 76 :: g 77 :: g 78 :: []).toArray, defers := [] } := by
  obtain ⟨tm, df⟩ := b
  obtain rfl : df = [] := hd
  obtain rfl : (fun t => tm[t]?.getD undef) = g := funext hg
  exact congrArg (fun x => Act.mk x []) (tmps_eq hN)

/-- A search that knows nothing yet. -/
structure Fresh (c : Cfg) (s : PS) : Prop where
  mb : ∀ j, s.Mb j = 0
  ma : ∀ j, s.Ma j = 0
  tr : s.tr = []
  tv : s.tv = .slice none 0 0
  head : s.head = 0
  ok : s.broken = false

theorem Boxed.st {n wd N1 N2 B : Nat} {γ : Nat → Nat} {w : World} {v : Value} (h : Boxed n wd N1 N2 B γ w v) (h1 : 1 ≤ n) (h2 : n ≤ 80) (hwd : wd = (n + 63) / 64) (e1 : N1 = n * wd) (e2 : N2 = n * n) :
    ∃ c s b28, v = .pointer (some ⟨c.P, 0, none⟩) ∧ c.n = n ∧ St c s w ∧ Fresh c s ∧ (∀ k, own c none k → B ≤ k) ∧ B ≤ b28 ∧ ¬ own c none b28 ∧ w.rowIs b28 21 (c.n * c.n) (fun _ => .int .i32 0) ∧ w.cell? ⟨c.P, 28, none⟩ = some (.slice (some ⟨b28, 0, none⟩) (c.n * c.n) (c.n * c.n)) := by
  obtain ⟨P, cs, hv, hB, hh, ht, p, b3, b4, b5, b6, b7, b14, b28, a19, a20, a25, a29, a30, l19, l20, l25, l29, l30, c19, c20, c25, c29, c30, he, h3, h4, h5, h6, h7, h14, h28⟩ := h
  subst e1 e2 hwd he
  obtain ⟨q3, r3, t3⟩ := h3
  obtain ⟨q4, r4, t4⟩ := h4
  obtain ⟨q5, r5, t5⟩ := h5
  obtain ⟨q6, r6, t6⟩ := h6
  obtain ⟨q7, r7, t7⟩ := h7
  obtain ⟨q14, r14, t14⟩ := h14
  obtain ⟨q28, r28, t28⟩ := h28
  let cs := cells51 (n : Int) (((n + 63) / 64 : Nat) : Int) p (some ⟨b3, 0, none⟩) (some ⟨b4, 0, none⟩) (some ⟨b5, 0, none⟩) (some ⟨b6, 0, none⟩) (some ⟨b7, 0, none⟩) (some ⟨b14, 0, none⟩) a19 a20 a25 (some ⟨b28, 0, none⟩) a29 a30 (n * ((n + 63) / 64)) (n * n) l19 l20 l25 l29 l30 c19 c20 c25 c29 c30
  have tag : ∀ {x y i j : Nat}, γ x = i → γ y = j → i ≠ j → x ≠ y := fun hx hy hij e => hij (by rw [← hx, ← hy, e])
  have hne : [P, b3, b4, b5, b6, b7, b14].Nodup := by
    simp only [List.nodup_cons, List.mem_cons, List.not_mem_nil, or_false, not_or, List.nodup_nil, and_true, not_false_eq_true]
    refine ⟨⟨?_, ?_, ?_, ?_, ?_, ?_⟩, ⟨?_, ?_, ?_, ?_, ?_⟩, ⟨?_, ?_, ?_, ?_⟩, ⟨?_, ?_, ?_⟩, ⟨?_, ?_⟩, ?_⟩ <;> exact tag (by assumption) (by assumption) (by decide)
  refine ⟨⟨n, (n + 63) / 64, P, b3, b4, b5, b6, b7, b14⟩, ⟨fun _ => 0, fun _ => 0, [], .slice none 0 0, .slice none 0 0, 0, 0, false, fun j => cs[j]?.getD undef, fun _ => .int .i32 0, fun _ => .int .i32 0⟩, b28, hv, rfl, ?_, ⟨fun _ => rfl, fun _ => rfl, rfl, rfl, rfl, rfl⟩, ?_, q28, ?_, r28, ?_⟩
  · refine St.mk ⟨h1, h2, by show 1 ≤ (n + 63) / 64; omega, by show (n + 63) / 64 ≤ 2; omega, by show n ≤ (n + 63) / 64 * 64; omega, hne⟩ ⟨_, hh, rfl, ?_⟩ r3 r4 r5 r6 r7 r14 (fun _ => by show 0 < _; omega) (fun _ => by show 0 < _; omega) (World.ownsRow_nil _ _ _ _) rfl (fun g hg => by cases hg)
    intro i hi
    match i, hi with
    | 0, _ => rfl
    | 1, _ => rfl
    | 2, _ => rfl
    | 3, _ => rfl
    | 4, _ => rfl
    | 5, _ => rfl
    | 6, _ => rfl
    | 7, _ => rfl
    | 8, _ => rfl
    | 9, _ => rfl
    | 10, _ => rfl
    | 11, _ => rfl
    | 12, _ => rfl
    | 13, _ => rfl
    | 14, _ => rfl
    | 15, _ => rfl
    | 16, _ => rfl
    | 17, _ => rfl
    | 18, _ => rfl
    | 19, _ => rfl
    | 20, _ => rfl
    | 21, _ => rfl
    | 22, _ => rfl
    | 23, _ => rfl
    | 24, _ => rfl
    | 25, _ => rfl
    | 26, _ => rfl
    | 27, _ => rfl
    | 28, _ => rfl
    | 29, _ => rfl
    | 30, _ => rfl
    | 31, _ => rfl
    | 32, _ => rfl
    | 33, _ => rfl
    | i + 34, h => omega
  · intro k hk
    rcases hk with rfl | rfl | rfl | rfl | rfl | rfl | rfl | hk
    · exact hB
    · exact q3
    · exact q4
    · exact q5
    · exact q6
    · exact q7
    · exact q14
    · cases hk
  · rintro (e | e | e | e | e | e | e | e)
    · exact tag t28 ht (by decide) e
    · exact tag t28 t3 (by decide) e
    · exact tag t28 t4 (by decide) e
    · exact tag t28 t5 (by decide) e
    · exact tag t28 t6 (by decide) e
    · exact tag t28 t7 (by decide) e
    · exact tag t28 t14 (by decide) e
    · cases e
  · simp only [World.cell?, hh]
    rfl

def Fn (P N i : Nat) (f : Act) : Prop := f.tmps.size = 79 ∧ f.defers = [] ∧ f.tmps[4]?.getD undef = .pointer (some ⟨P, 0, none⟩) ∧ f.tmps[67]?.getD undef = .int .i64 (N : Int) ∧ f.tmps[68]?.getD undef = .int .i64 (i : Int)

def In (w1 : World) (P b28 N : Nat) (m : Nat) (f : Act) (w : World) : Prop :=
  ∃ i, i ≤ N ∧ m = N - i ∧ Fn P N i f ∧ (∃ g, w.rowIs b28 21 N g) ∧ Keeps (fun k => k = b28) w1 w

set_option maxRecDepth 100000 in
set_option maxHeartbeats 2000000 in
theorem new_any (n : Nat) (h1 : 1 ≤ n) (h80 : n ≤ 80) (w : World) :
    Calls Ybad.prog 5 #[.int .i64 (n : Int)] w fun e w' => ∃ c, e = .returned (.pointer (some ⟨c.P, 0, none⟩)) ∧ c.n = n ∧ ∃ s, St c s w' ∧ Fresh c s ∧ (∀ k, own c none k → w.heap.size ≤ k) ∧ Keeps (fun _ => False) w w' := by
  obtain ⟨wd, hwd⟩ : ∃ wd, wd = (n + 63) / 64 := ⟨_, rfl⟩
  have hwi : ((n : Int) + 63) / 64 = (wd : Int) := by omega
  have hw2 : wd ≤ 2 := by omega
  have hb1 : n * wd ≤ 160 := Nat.mul_le_mul h80 hw2
  have hb2 : n * n ≤ 6400 := Nat.mul_le_mul h80 h80
  go_enter Ybad.func5, Ybad.ntmps5
  obtain ⟨X, hX⟩ : ∃ X, X = (Ybad.f5.body.bind (reg 2)).getD .skip := ⟨_, rfl⟩
  change Code.wp _ (Code.seq _ (Code.seq _ (Code.seq ((Ybad.f5.body.bind (reg 2)).getD .skip) _))) _ _ _
  rw [← hX]
  go_wp2_with fail
  rw [hX]
  clear hX
  rename_i K hKont
  refine new_region n wd (n * wd) (n * n) _ _ (by push_cast; rfl) (by push_cast; rfl) hb1 hb2 rfl rfl (congrArg (Value.int .i64) hwi) rfl ?_
  intro f' w1 v γ hsz hds e4 hBx hK1
  refine hKont _ _ ?_
  clear hKont
  obtain ⟨c, s, b28, rfl, hcn, hS, hFresh, hlow, hq28, hno, hrow, hc28⟩ := hBx.st h1 h80 hwd rfl rfl
  subst hcn
  obtain ⟨g, hg⟩ : ∃ g : Nat → Value, ∀ t, f'.tmps[t]?.getD undef = g t := ⟨_, fun _ => rfl⟩
  rw [hg] at e4
  rw [lit79 f' g hg hsz hds, e4]
  clear hg hsz hds e4 hBx
  have HS : Hid (_) := hS
  have HFr : Hid (Fresh c s) := hFresh
  have hPne : c.P ≠ b28 := fun e => hno (by simp [own, e])
  have htv : s.tv.ownBlock = none := by rw [hFresh.tv]; rfl
  clear hS hFresh
  go_wp2_with fail
  rename_i K2 hKont2
  refine wp_loop_ghost (In w1 c.P b28 (c.n * c.n)) (c.n * c.n) ⟨0, Nat.zero_le _, rfl, ⟨rfl, rfl, rfl, rfl, rfl⟩, ⟨_, hrow⟩, Keeps.refl _ _⟩ ?_
  rintro m f w2 ⟨i, hi, rfl, ⟨hsz, hds, e4, e67, e68⟩, ⟨g28, hrow2⟩, hK2⟩
  obtain ⟨g, hg⟩ : ∃ g : Nat → Value, ∀ t, f.tmps[t]?.getD undef = g t := ⟨_, fun _ => rfl⟩
  rw [hg] at e4 e67 e68
  rw [lit79 f g hg hsz hds, e4, e67, e68]
  clear hg hsz hds e4 e67 e68
  have hlt28 := World.block_lt_of_cell? _ _ hc28
  have hc2 : w2.cell? ⟨c.P, 28, none⟩ = some (.slice (some ⟨b28, 0, none⟩) (c.n * c.n) (c.n * c.n)) := by
    rw [World.cell?_of_block (hK2.block c.P hlt28 hPne)]; exact hc28
  generalize hNd : c.n * c.n = N at *
  by_cases hlt : i < N
  · have hI0 : (0 : Int) ≤ (i : Int) := by omega
    have hI1 : (i : Int) < (N : Int) := by omega
    have hcell := hrow2.cell hlt
    have hfr := hrow2.frozen i
    have HR : Hid (∃ g, (w2.setCell ⟨b28, i, none⟩ (.int .i32 (-1))).rowIs b28 21 N g) := ⟨_, hrow2.set i _⟩
    have HK : Hid (Keeps (fun k => k = b28) w1 (w2.setCell ⟨b28, i, none⟩ (.int .i32 (-1)))) := hK2.setCell (fun _ => rfl) _
    clear hrow2 hK2
    go_wp2_with fail
    exact ⟨N - (i + 1), by omega, i + 1, by omega, rfl, ⟨rfl, rfl, rfl, rfl, by first | rfl | go_num⟩, HR.out, HK.out⟩
  · obtain rfl : i = N := by omega
    have hI1 : ¬ (i : Int) < (i : Int) := by omega
    have HF : Hid (St c s w2 ∧ Keeps (fun _ => False) w w2) := by
      refine ⟨HS.out.keeps hK2 fun k hk e => ?_, hK1.trans hK2 fun k hk e => ?_⟩
      · subst e; rw [htv] at hk; exact hno hk
      · omega
    clear hrow2 hK2 hK1
    go_wp2_with fail
    go_ret
    exact ⟨c, rfl, rfl, s, HF.out.1, HFr.out, hlow, HF.out.2⟩
end Go.Proofs.YbulkbnbgDoor.Pr
