/-
  'zzs3191bcheck' (function 8): the triple loop; the cycle sought.
-/
import Derived.Test.YbulkbnbgDoorChkA
namespace Go.Proofs.YbulkbnbgDoor.Pr
set_option linter.unusedSimpArgs false
open Go.ChangeShapes Go.WideShapes Go.ChangeAt Go.RowKit

def Z6 (P n : Nat) (vu vv : Value) (rB : Nat) (w0 : World) (r : Nat → Nat → Bool) (k i : Nat) (m : Nat) (f : Act) (w : World) : Prop :=
  ∃ j, j ≤ n ∧ m = n - j ∧ Fz P n vu vv rB f ∧ f.tmps[11]?.getD undef = .int .i64 (k : Int) ∧ f.tmps[12]?.getD undef = .int .i64 (i : Int) ∧ f.tmps[13]?.getD undef = .int .i64 (j : Int) ∧ Bm n rB (fw r k i j) w ∧ Keeps (fun k => k = rB) w0 w

set_option maxRecDepth 100000 in
set_option maxHeartbeats 4000000 in
theorem check6 {Q : Exit → Act → World → Prop} (P n : Nat) (hn : n ≤ 80) (vu vv : Value) (rB : Nat) (w0 : World) (r : Nat → Nat → Bool) (k i : Nat) (hk : k < n) (hi : i < n) (hik : r i k = true) (f : Act) (w : World)
    (hF : Z6 P n vu vv rB w0 r k i n f w)
    (hnext : ∀ f' w', Fz P n vu vv rB f' → f'.tmps[11]?.getD undef = .int .i64 (k : Int) → f'.tmps[12]?.getD undef = .int .i64 (i : Int) → Bm n rB (fw r k i n) w' → Keeps (fun k => k = rB) w0 w' → Q (.exit 6) f' w') :
    Code.wp Ybad.prog ((Ybad.f8.body.bind (blk 6)).getD .skip) Q f w := by
  conv => arg 2; whnf
  refine wp_loop_ghost (Z6 P n vu vv rB w0 r k i) n hF ?_
  clear hF f w
  rintro m f w ⟨j, hj, rfl, ⟨hsz, hds, e0, e1, e2, e3, e9⟩, e11, e12, e13, hB, hK⟩
  obtain ⟨g, hg⟩ : ∃ g : Nat → Value, ∀ t, f.tmps[t]?.getD undef = g t := ⟨_, fun _ => rfl⟩
  rw [hg] at e0 e1 e2 e3 e9 e11 e12 e13
  rw [lit218 f g hg hsz hds, e0, e1, e2, e3, e9, e11, e12, e13]
  clear hg hsz hds e0 e1 e2 e3 e9 e11 e12 e13
  by_cases hl : j < n
  · obtain ⟨k0, k1, k2, k3⟩ := idx_int hk hl hn
    obtain ⟨j0, j1, j2, j3⟩ := idx_int hi hl hn
    have hI1 : (j : Int) < (n : Int) := by omega
    have hc1 := hB.cell hk hl
    rw [fw_row] at hc1
    have hc2 := hB.cell hi hl
    have hf2 := World.rowIs.frozen hB (i * n + j)
    cases hkj : r k j with
    | true =>
      rw [hkj] at hc1
      have h0 : Bm n rB (fw r k i (j + 1)) (w.setCell ⟨rB, i * n + j, none⟩ (.bool true)) := (hB.set (x := i) hl).congr fun a b ha hb => by
        rw [fw_step r k i j hik a b, hkj]; simp
      have HB : Hid (_) := h0
      have HK : Hid (Keeps (fun k => k = rB) w0 (w.setCell ⟨rB, i * n + j, none⟩ (.bool true))) := hK.setCell (fun _ => rfl) _
      clear h0 hB hK
      go_wp2_with fail
      exact ⟨n - (j + 1), by omega, j + 1, by omega, rfl, ⟨rfl, rfl, rfl, rfl, rfl, rfl, rfl⟩, rfl, rfl, by first | rfl | go_num, HB.out, HK.out⟩
    | false =>
      rw [hkj] at hc1
      have h0 : Bm n rB (fw r k i (j + 1)) w := hB.congr fun a b ha hb => by
        rw [fw_step r k i j hik a b, hkj]; simp
      have HB : Hid (_) := h0
      have HK : Hid (_) := hK
      clear h0 hB hK
      go_wp2_with fail
      exact ⟨n - (j + 1), by omega, j + 1, by omega, rfl, ⟨rfl, rfl, rfl, rfl, rfl, rfl, rfl⟩, rfl, rfl, by first | rfl | go_num, HB.out, HK.out⟩
  · obtain rfl : j = n := by omega
    have hI1 : ¬ (j : Int) < (j : Int) := by omega
    have HB : Hid (_) := hB
    have HK : Hid (_) := hK
    clear hB hK
    go_wp2_with fail
    exact hnext _ _ ⟨rfl, rfl, rfl, rfl, rfl, rfl, rfl⟩ rfl rfl HB.out HK.out

def Z4 (P n : Nat) (vu vv : Value) (rB : Nat) (w0 : World) (r : Nat → Nat → Bool) (k : Nat) (m : Nat) (f : Act) (w : World) : Prop :=
  ∃ i, i ≤ n ∧ m = n - i ∧ Fz P n vu vv rB f ∧ f.tmps[11]?.getD undef = .int .i64 (k : Int) ∧ f.tmps[12]?.getD undef = .int .i64 (i : Int) ∧ Bm n rB (fw r k i 0) w ∧ Keeps (fun k => k = rB) w0 w

set_option maxRecDepth 100000 in
set_option maxHeartbeats 4000000 in
theorem check4 {Q : Exit → Act → World → Prop} (P n : Nat) (hn : n ≤ 80) (vu vv : Value) (rB : Nat) (w0 : World) (r : Nat → Nat → Bool) (k : Nat) (hk : k < n) (f : Act) (w : World)
    (hF : Z4 P n vu vv rB w0 r k n f w)
    (hnext : ∀ f' w', Fz P n vu vv rB f' → f'.tmps[11]?.getD undef = .int .i64 (k : Int) → Bm n rB (fw r k n 0) w' → Keeps (fun k => k = rB) w0 w' → Q (.exit 4) f' w') :
    Code.wp Ybad.prog ((Ybad.f8.body.bind (blk 4)).getD .skip) Q f w := by
  conv => arg 2; whnf
  refine wp_loop_ghost (Z4 P n vu vv rB w0 r k) n hF ?_
  clear hF f w
  rintro m f w ⟨i, hi, rfl, ⟨hsz, hds, e0, e1, e2, e3, e9⟩, e11, e12, hB, hK⟩
  obtain ⟨g, hg⟩ : ∃ g : Nat → Value, ∀ t, f.tmps[t]?.getD undef = g t := ⟨_, fun _ => rfl⟩
  rw [hg] at e0 e1 e2 e3 e9 e11 e12
  rw [lit218 f g hg hsz hds, e0, e1, e2, e3, e9, e11, e12]
  clear hg hsz hds e0 e1 e2 e3 e9 e11 e12
  by_cases hl : i < n
  · obtain ⟨k0, k1, k2, k3⟩ := idx_int hl hk hn
    have hI1 : (i : Int) < (n : Int) := by omega
    have hc1 := hB.cell hl hk
    rw [fw_col] at hc1
    have HB : Hid (_) := hB
    have HK : Hid (_) := hK
    clear hB hK
    cases hik : r i k with
    | true =>
      rw [hik] at hc1
      go_wp2_with fail
      refine check6 (Q := _) P n hn vu vv rB w0 r k i hk hl hik _ _ ⟨0, Nat.zero_le _, rfl, ⟨rfl, rfl, rfl, rfl, rfl, rfl, rfl⟩, rfl, rfl, rfl, HB.out, HK.out⟩ ?_
      rintro f' w' ⟨hsz, hds, e0, e1, e2, e3, e9⟩ e11 e12 hB' hK'
      obtain ⟨g', hg'⟩ : ∃ g : Nat → Value, ∀ t, f'.tmps[t]?.getD undef = g t := ⟨_, fun _ => rfl⟩
      rw [hg'] at e0 e1 e2 e3 e9 e11 e12
      rw [lit218 f' g' hg' hsz hds, e0, e1, e2, e3, e9, e11, e12]
      clear hg' hsz hds e0 e1 e2 e3 e9 e11 e12 hc1 HB HK
      have h0 : Bm n rB (fw r k (i + 1) 0) w' := hB'.congr fun a b ha hb => (fw_next r k i n a b hb).symm
      have HB : Hid (_) := h0
      have HK : Hid (_) := hK'
      clear hB' hK' h0
      go_wp2_with fail
      exact ⟨n - (i + 1), by omega, i + 1, by omega, rfl, ⟨rfl, rfl, rfl, rfl, rfl, rfl, rfl⟩, rfl, by first | rfl | go_num, HB.out, HK.out⟩
    | false =>
      rw [hik] at hc1
      have h0 : Bm n rB (fw r k (i + 1) 0) w := Bm.congr HB.out fun a b ha hb => (fw_skip r k i hik a b).symm
      have HB' : Hid (_) := h0
      clear h0
      go_wp2_with fail
      exact ⟨n - (i + 1), by omega, i + 1, by omega, rfl, ⟨rfl, rfl, rfl, rfl, rfl, rfl, rfl⟩, rfl, by first | rfl | go_num, HB'.out, HK.out⟩
  · obtain rfl : i = n := by omega
    have hI1 : ¬ (i : Int) < (i : Int) := by omega
    have HB : Hid (_) := hB
    have HK : Hid (_) := hK
    clear hB hK
    go_wp2_with fail
    exact hnext _ _ ⟨rfl, rfl, rfl, rfl, rfl, rfl, rfl⟩ rfl HB.out HK.out

def Z2 (P n : Nat) (E : Nat → Nat → Prop) (vu vv : Value) (rB : Nat) (w0 : World) (m : Nat) (f : Act) (w : World) : Prop :=
  ∃ k r, k ≤ n ∧ m = n - k ∧ Fz P n vu vv rB f ∧ f.tmps[11]?.getD undef = .int .i64 (k : Int) ∧ Bm n rB r w ∧ Fw n E k r ∧ Keeps (fun k => k = rB) w0 w

set_option maxRecDepth 100000 in
set_option maxHeartbeats 4000000 in
theorem check2 {Q : Exit → Act → World → Prop} (P n : Nat) (hn : n ≤ 80) (E : Nat → Nat → Prop) (hE : ∀ x y, E x y → x < n ∧ y < n) (vu vv : Value) (rB : Nat) (w0 : World) (f : Act) (w : World)
    (hF : Z2 P n E vu vv rB w0 n f w)
    (hnext : ∀ f' w' r, Fz P n vu vv rB f' → Bm n rB r w' → Fw n E n r → Keeps (fun k => k = rB) w0 w' → Q (.exit 2) f' w') :
    Code.wp Ybad.prog ((Ybad.f8.body.bind (blk 2)).getD .skip) Q f w := by
  conv => arg 2; whnf
  refine wp_loop_ghost (Z2 P n E vu vv rB w0) n hF ?_
  clear hF f w
  rintro m f w ⟨k, r, hk, rfl, ⟨hsz, hds, e0, e1, e2, e3, e9⟩, e11, hB, hW, hK⟩
  obtain ⟨g, hg⟩ : ∃ g : Nat → Value, ∀ t, f.tmps[t]?.getD undef = g t := ⟨_, fun _ => rfl⟩
  rw [hg] at e0 e1 e2 e3 e9 e11
  rw [lit218 f g hg hsz hds, e0, e1, e2, e3, e9, e11]
  clear hg hsz hds e0 e1 e2 e3 e9 e11
  by_cases hl : k < n
  · have hI1 : (k : Int) < (n : Int) := by omega
    have h0 : Bm n rB (fw r k 0 0) w := hB.congr fun a b _ _ => (fw_zero r k a b).symm
    have HB : Hid (_) := h0
    have HK : Hid (_) := hK
    have h1 := hW.round hl
    have HW : Hid (_) := h1
    clear hB hK h0 hW h1
    go_wp2_with fail
    refine check4 (Q := _) P n hn vu vv rB w0 r k hl _ _ ⟨0, Nat.zero_le _, rfl, ⟨rfl, rfl, rfl, rfl, rfl, rfl, rfl⟩, rfl, rfl, HB.out, HK.out⟩ ?_
    rintro f' w' ⟨hsz, hds, e0, e1, e2, e3, e9⟩ e11 hB' hK'
    obtain ⟨g', hg'⟩ : ∃ g : Nat → Value, ∀ t, f'.tmps[t]?.getD undef = g t := ⟨_, fun _ => rfl⟩
    rw [hg'] at e0 e1 e2 e3 e9 e11
    rw [lit218 f' g' hg' hsz hds, e0, e1, e2, e3, e9, e11]
    clear hg' hsz hds e0 e1 e2 e3 e9 e11 HB HK
    have h1 : Fw n E (k + 1) (fw r k n 0) := HW.out.congr hE fun x y hx _ => (fw_full r k n x y hx).symm
    have HB : Hid (_) := hB'
    have HK : Hid (_) := hK'
    have HW' : Hid (_) := h1
    clear hB' hK' h1
    go_wp2_with fail
    exact ⟨n - (k + 1), by omega, k + 1, _, by omega, rfl, ⟨rfl, rfl, rfl, rfl, rfl, rfl, rfl⟩, by first | rfl | go_num, HB.out, HW'.out, HK.out⟩
  · obtain rfl : k = n := by omega
    have hI1 : ¬ (k : Int) < (k : Int) := by omega
    have HB : Hid (_) := hB
    have HK : Hid (_) := hK
    have HW : Hid (_) := hW
    clear hB hK hW
    go_wp2_with fail
    exact hnext _ _ r ⟨rfl, rfl, rfl, rfl, rfl, rfl, rfl⟩ HB.out HW.out HK.out

/-- Is there a loop at one of the first i nodes? -/
def cyc (r : Nat → Nat → Bool) : Nat → Bool
  | 0 => false
  | i + 1 => cyc r i || r i i
theorem cyc_iff (r : Nat → Nat → Bool) : ∀ n, cyc r n = true ↔ ∃ x, x < n ∧ r x x = true
  | 0 => by simp [cyc]
  | n + 1 => by
    rw [cyc, Bool.or_eq_true, cyc_iff r n]
    constructor
    · rintro (⟨x, hx, h⟩ | h)
      · exact ⟨x, by omega, h⟩
      · exact ⟨n, by omega, h⟩
    · rintro ⟨x, hx, h⟩
      by_cases e : x = n
      · subst e; exact Or.inr h
      · exact Or.inl ⟨x, by omega, h⟩

def Z8 (P n : Nat) (vu vv : Value) (rB : Nat) (r : Nat → Nat → Bool) (w1 : World) (m : Nat) (f : Act) (w : World) : Prop :=
  ∃ i, i ≤ n ∧ m = n - i ∧ Fz P n vu vv rB f ∧ f.tmps[14]?.getD undef = .bool (cyc r i) ∧ f.tmps[15]?.getD undef = .int .i64 (i : Int) ∧ w = w1

set_option maxRecDepth 100000 in
set_option maxHeartbeats 4000000 in
theorem check8 {Q : Exit → Act → World → Prop} (P n : Nat) (hn : n ≤ 80) (vu vv : Value) (rB : Nat) (r : Nat → Nat → Bool) (w1 : World) (hB : Bm n rB r w1) (f : Act)
    (hF : Z8 P n vu vv rB r w1 n f w1)
    (hnext : ∀ f', Fz P n vu vv rB f' → f'.tmps[14]?.getD undef = .bool (cyc r n) → Q (.exit 8) f' w1) :
    Code.wp Ybad.prog ((Ybad.f8.body.bind (blk 8)).getD .skip) Q f w1 := by
  conv => arg 2; whnf
  refine wp_loop_ghost (Z8 P n vu vv rB r w1) n hF ?_
  clear hF f
  rintro m f w ⟨i, hi, rfl, ⟨hsz, hds, e0, e1, e2, e3, e9⟩, e14, e15, rfl⟩
  obtain ⟨g, hg⟩ : ∃ g : Nat → Value, ∀ t, f.tmps[t]?.getD undef = g t := ⟨_, fun _ => rfl⟩
  rw [hg] at e0 e1 e2 e3 e9 e14 e15
  rw [lit218 f g hg hsz hds, e0, e1, e2, e3, e9, e14, e15]
  clear hg hsz hds e0 e1 e2 e3 e9 e14 e15
  by_cases hl : i < n
  · obtain ⟨k0, k1, k2, k3⟩ := idx_int hl hl hn
    have hI1 : (i : Int) < (n : Int) := by omega
    have hc1 := hB.cell hl hl
    have HC : Hid (cyc r (i + 1) = (cyc r i || r i i)) := (rfl : cyc r (i + 1) = _)
    clear hB
    cases hii : r i i with
    | true =>
      rw [hii] at hc1
      go_wp2_with fail
      exact ⟨n - (i + 1), by omega, i + 1, by omega, rfl, ⟨rfl, rfl, rfl, rfl, rfl, rfl, rfl⟩, by rw [HC.out, hii, Bool.or_true]; rfl, by first | rfl | go_num, rfl⟩
    | false =>
      rw [hii] at hc1
      go_wp2_with fail
      exact ⟨n - (i + 1), by omega, i + 1, by omega, rfl, ⟨rfl, rfl, rfl, rfl, rfl, rfl, rfl⟩, by rw [HC.out, hii, Bool.or_false]; rfl, by first | rfl | go_num, rfl⟩
  · obtain rfl : i = n := by omega
    have hI1 : ¬ (i : Int) < (i : Int) := by omega
    clear hB
    go_wp2_with fail
    exact hnext _ ⟨rfl, rfl, rfl, rfl, rfl, rfl, rfl⟩ rfl
end Go.Proofs.YbulkbnbgDoor.Pr
