/-
  association.add: its two drawn regions.
-/
import Derived.Test.YbulkbndkDoorApp
namespace Go.Proofs.YbulkbndkDoor.Pr
set_option linter.unusedSimpArgs false
set_option linter.unusedVariables false
open Go.ChangeShapes Go.WideShapes Go.ChangeAt Go.RowKit

theorem lit36 (b : Act) (g : Nat → Value) (hg : ∀ t, b.tmps[t]?.getD undef = g t) (hN : b.tmps.size = 36) (hd : b.defers = []) : b = { tmps := (g 0 :: g 1 :: g 2 :: g 3 :: g 4 :: g 5 :: g 6 :: g 7 :: g 8 :: g 9 :: g 10 :: g 11 :: g 12 :: g 13 :: g 14 :: g 15 :: g 16 :: g 17 :: g 18 :: g 19 :: g 20 :: g 21 :: g 22 :: g 23 :: g 24 :: g 25 :: g 26 :: g 27 :: g 28 :: g 29 :: g 30 :: g 31 :: g 32 :: g 33 :: g 34 :: g 35 :: []).toArray, defers := [] } := by
  obtain ⟨tm, df⟩ := b
  obtain rfl : df = [] := hd
  obtain rfl : (fun t => tm[t]?.getD undef) = g := funext hg
  exact congrArg (fun x => Act.mk x []) (tmps_eq hN)

set_option maxRecDepth 100000 in
set_option maxHeartbeats 4000000 in
theorem add_r2 {Q : Exit → Act → World → Prop} (bx a : Nat) (rf : Nat → Value) (m BB : Nat) (xs : List Value) (f : Act) (w : World)  (c16 : w.cell? ⟨a, 16, none⟩ = some (.pointer (some ⟨bx, 0, none⟩))) (c16b : a ≠ bx) (c16r : (rf 0).ownBlock ≠ some a)
    (hr : w.rowIs bx 31 1 rf) (hown : w.ownsRow BB 34 1 (rf 0) m xs) (hm : m ≤ 1000000) (nh : (rf 0).ownBlock ≠ some bx) (hBB : BB ≤ w.heap.size)
    (hsz : f.tmps.size = 36) (hds : f.defers = []) (ht0 : f.tmps[0]?.getD undef = .pointer (some ⟨a, 0, none⟩))
    (hend : ∀ f' w' gg cap, f'.tmps.size = 36 → f'.defers = [] → (∀ t, t < 10 → f'.tmps[t]?.getD undef = f.tmps[t]?.getD undef) → Apd w w' bx 0 31 1 rf BB 34 1 m xs [.pointer (some ⟨a, 0, none⟩)] gg cap → Q .normal f' w') :
    Code.wp Ybad.prog ((Ybad.f24.body.bind (reg 2)).getD .skip) Q f w := by
  conv => arg 2; whnf
  obtain ⟨i0, hi0, hz0, hz1, hz2⟩ := info_parts info34
  refine app_shape (N := 36) f w (by kernel_rfl) (fun i => match i with
    | 0 => .pointer (some ⟨a, 0, none⟩)
    | 1 => .pointer (some ⟨a, 0, none⟩)
    | 2 => .pointer (some ⟨a, 16, none⟩)
    | 3 => .pointer (some ⟨bx, 0, none⟩)
    | 4 => .pointer (some ⟨a, 0, none⟩)
    | 5 => .pointer (some ⟨a, 0, none⟩)
    | 6 => .pointer (some ⟨a, 16, none⟩)
    | 7 => .pointer (some ⟨bx, 0, none⟩)
    | 8 => .pointer (some ⟨bx, 0, none⟩)
    | 9 => .pointer (some ⟨bx, 0, none⟩)
    | 10 => rf 0
    | 11 => .pointer (some ⟨a, 0, none⟩)
    | 14 => .pointer (some ⟨bx, 0, none⟩)
    | 15 => .pointer (some ⟨bx, 0, none⟩)
    | _ => undef) 10 12 13 16 (by decide) rfl rfl rfl bx 0 31 1 rf BB 34 1 8 m xs [.pointer (some ⟨a, 0, none⟩)] 34 29 i0 _ hr (by omega) hown hm nh hBB Ybad.underlying29 hi0 hz0 hz1 hz2 rfl (by omega) (by omega) rfl rfl (by intro q hq; simp at hq; first | (subst hq; rfl) | (rcases hq with rfl | rfl <;> rfl) | (rcases hq with rfl | rfl | rfl <;> rfl) | (rcases hq with rfl | rfl | rfl | rfl <;> rfl)) 20 22 0 23 rfl rfl rfl rfl (by simp) (by simp) rfl (by simp) rfl hsz hds ?_ ?_ ?_ ?_ ?_
  · intro i o hi h1 h2 h3
    match i, hi, h1, h2, h3 with
    | 0, hi, _, _, _ => (simp only [List.getElem?_toArray, List.getElem?_cons_zero, List.getElem?_cons_succ, Option.some.injEq] at hi; subst hi; simp)
    | 1, hi, _, _, _ => (simp only [List.getElem?_toArray, List.getElem?_cons_zero, List.getElem?_cons_succ, Option.some.injEq] at hi; subst hi; simp)
    | 2, hi, _, _, _ => (simp only [List.getElem?_toArray, List.getElem?_cons_zero, List.getElem?_cons_succ, Option.some.injEq] at hi; subst hi; simp)
    | 3, hi, _, _, _ => (simp only [List.getElem?_toArray, List.getElem?_cons_zero, List.getElem?_cons_succ, Option.some.injEq] at hi; subst hi; simp)
    | 4, hi, _, _, _ => (simp only [List.getElem?_toArray, List.getElem?_cons_zero, List.getElem?_cons_succ, Option.some.injEq] at hi; subst hi; simp)
    | 5, hi, _, _, _ => (simp only [List.getElem?_toArray, List.getElem?_cons_zero, List.getElem?_cons_succ, Option.some.injEq] at hi; subst hi; simp)
    | 6, hi, _, _, _ => (simp only [List.getElem?_toArray, List.getElem?_cons_zero, List.getElem?_cons_succ, Option.some.injEq] at hi; subst hi; simp)
    | 7, hi, _, _, _ => (simp only [List.getElem?_toArray, List.getElem?_cons_zero, List.getElem?_cons_succ, Option.some.injEq] at hi; subst hi; simp)
    | 8, hi, _, _, _ => (simp only [List.getElem?_toArray, List.getElem?_cons_zero, List.getElem?_cons_succ, Option.some.injEq] at hi; subst hi; simp)
    | 9, hi, _, _, _ => (simp only [List.getElem?_toArray, List.getElem?_cons_zero, List.getElem?_cons_succ, Option.some.injEq] at hi; subst hi; simp)
    | 10, hi, _, _, _ => (simp only [List.getElem?_toArray, List.getElem?_cons_zero, List.getElem?_cons_succ, Option.some.injEq] at hi; subst hi; simp)
    | 11, hi, _, _, _ => (simp only [List.getElem?_toArray, List.getElem?_cons_zero, List.getElem?_cons_succ, Option.some.injEq] at hi; subst hi; simp)
    | 12, hi, _, _, _ => (simp only [List.getElem?_toArray, List.getElem?_cons_zero, List.getElem?_cons_succ, Option.some.injEq] at hi; subst hi; simp)
    | 13, hi, _, _, _ => (simp only [List.getElem?_toArray, List.getElem?_cons_zero, List.getElem?_cons_succ, Option.some.injEq] at hi; subst hi; simp)
    | 14, hi, _, _, _ => (simp only [List.getElem?_toArray, List.getElem?_cons_zero, List.getElem?_cons_succ, Option.some.injEq] at hi; subst hi; simp)
    | 15, hi, _, _, _ => (simp only [List.getElem?_toArray, List.getElem?_cons_zero, List.getElem?_cons_succ, Option.some.injEq] at hi; subst hi; simp)
    | 16, hi, h1, h2, h3 => exact absurd rfl h3
    | _ + 17, hi, _, _, _ => simp at hi
  · intro i o hi h1 h2 h3 b wx hcl hhd hdat hold
    match i, hi, h1, h2, h3 with
    | 0, hi, h1, h2, h3 =>
      simp only [List.getElem?_toArray, List.getElem?_cons_zero, List.getElem?_cons_succ, Option.some.injEq] at hi
      subst hi
      have e0 : b.tmps[0]?.getD undef = .pointer (some ⟨a, 0, none⟩) := (hold 0 (by decide)).trans ht0
      clear hold hdat
      show _ = Result.ok (Next.value (.pointer (some ⟨a, 0, none⟩))) wx
      go_simp
    | 1, hi, h1, h2, h3 =>
      simp only [List.getElem?_toArray, List.getElem?_cons_zero, List.getElem?_cons_succ, Option.some.injEq] at hi
      subst hi
      have e10 : b.tmps[10]?.getD undef = .pointer (some ⟨a, 0, none⟩) := hdat 0 10 (by simp) (by decide) (by decide) (by decide) rfl
      clear hold hdat
      show _ = Result.ok (Next.value (.pointer (some ⟨a, 0, none⟩))) wx
      go_simp
    | 2, hi, h1, h2, h3 =>
      simp only [List.getElem?_toArray, List.getElem?_cons_zero, List.getElem?_cons_succ, Option.some.injEq] at hi
      subst hi
      have e11 : b.tmps[11]?.getD undef = .pointer (some ⟨a, 0, none⟩) := hdat 1 11 (by simp) (by decide) (by decide) (by decide) rfl
      clear hold hdat
      show _ = Result.ok (Next.value (.pointer (some ⟨a, 16, none⟩))) wx
      go_simp
    | 3, hi, h1, h2, h3 =>
      simp only [List.getElem?_toArray, List.getElem?_cons_zero, List.getElem?_cons_succ, Option.some.injEq] at hi
      subst hi
      have e12 : b.tmps[12]?.getD undef = .pointer (some ⟨a, 16, none⟩) := hdat 2 12 (by simp) (by decide) (by decide) (by decide) rfl
      clear hold hdat
      have kc16 := hcl _ _ c16 (by simpa using c16b) (by simpa using c16r)
      show _ = Result.ok (Next.value (.pointer (some ⟨bx, 0, none⟩))) wx
      go_simp
    | 4, hi, h1, h2, h3 =>
      simp only [List.getElem?_toArray, List.getElem?_cons_zero, List.getElem?_cons_succ, Option.some.injEq] at hi
      subst hi
      have e0 : b.tmps[0]?.getD undef = .pointer (some ⟨a, 0, none⟩) := (hold 0 (by decide)).trans ht0
      clear hold hdat
      show _ = Result.ok (Next.value (.pointer (some ⟨a, 0, none⟩))) wx
      go_simp
    | 5, hi, h1, h2, h3 =>
      simp only [List.getElem?_toArray, List.getElem?_cons_zero, List.getElem?_cons_succ, Option.some.injEq] at hi
      subst hi
      have e14 : b.tmps[14]?.getD undef = .pointer (some ⟨a, 0, none⟩) := hdat 4 14 (by simp) (by decide) (by decide) (by decide) rfl
      clear hold hdat
      show _ = Result.ok (Next.value (.pointer (some ⟨a, 0, none⟩))) wx
      go_simp
    | 6, hi, h1, h2, h3 =>
      simp only [List.getElem?_toArray, List.getElem?_cons_zero, List.getElem?_cons_succ, Option.some.injEq] at hi
      subst hi
      have e15 : b.tmps[15]?.getD undef = .pointer (some ⟨a, 0, none⟩) := hdat 5 15 (by simp) (by decide) (by decide) (by decide) rfl
      clear hold hdat
      show _ = Result.ok (Next.value (.pointer (some ⟨a, 16, none⟩))) wx
      go_simp
    | 7, hi, h1, h2, h3 =>
      simp only [List.getElem?_toArray, List.getElem?_cons_zero, List.getElem?_cons_succ, Option.some.injEq] at hi
      subst hi
      have e16 : b.tmps[16]?.getD undef = .pointer (some ⟨a, 16, none⟩) := hdat 6 16 (by simp) (by decide) (by decide) (by decide) rfl
      clear hold hdat
      have kc16 := hcl _ _ c16 (by simpa using c16b) (by simpa using c16r)
      show _ = Result.ok (Next.value (.pointer (some ⟨bx, 0, none⟩))) wx
      go_simp
    | 8, hi, h1, h2, h3 =>
      simp only [List.getElem?_toArray, List.getElem?_cons_zero, List.getElem?_cons_succ, Option.some.injEq] at hi
      subst hi
      have e17 : b.tmps[17]?.getD undef = .pointer (some ⟨bx, 0, none⟩) := hdat 7 17 (by simp) (by decide) (by decide) (by decide) rfl
      clear hold hdat
      show _ = Result.ok (Next.value (.pointer (some ⟨bx, 0, none⟩))) wx
      go_simp
    | 9, hi, h1, h2, h3 =>
      simp only [List.getElem?_toArray, List.getElem?_cons_zero, List.getElem?_cons_succ, Option.some.injEq] at hi
      subst hi
      have e18 : b.tmps[18]?.getD undef = .pointer (some ⟨bx, 0, none⟩) := hdat 8 18 (by simp) (by decide) (by decide) (by decide) rfl
      clear hold hdat
      show _ = Result.ok (Next.value (.pointer (some ⟨bx, 0, none⟩))) wx
      go_simp
    | 10, hi, h1, h2, h3 =>
      simp only [List.getElem?_toArray, List.getElem?_cons_zero, List.getElem?_cons_succ, Option.some.injEq] at hi
      subst hi
      have e19 : b.tmps[19]?.getD undef = .pointer (some ⟨bx, 0, none⟩) := hdat 9 19 (by simp) (by decide) (by decide) (by decide) rfl
      clear hold hdat
      have hh := hhd (by simp)
      obtain ⟨xa, xc, hxs, _⟩ := own_shape hown
      rw [hxs] at hh
      show _ = Result.ok (Next.value (rf 0)) wx
      rw [hxs]
      go_simp
    | 11, hi, h1, h2, h3 =>
      simp only [List.getElem?_toArray, List.getElem?_cons_zero, List.getElem?_cons_succ, Option.some.injEq] at hi
      subst hi
      have e0 : b.tmps[0]?.getD undef = .pointer (some ⟨a, 0, none⟩) := (hold 0 (by decide)).trans ht0
      clear hold hdat
      show _ = Result.ok (Next.value (.pointer (some ⟨a, 0, none⟩))) wx
      go_simp
    | 12, hi, h1, h2, h3 => exact absurd rfl h1
    | 13, hi, h1, h2, h3 => exact absurd rfl h2
    | 14, hi, h1, h2, h3 =>
      simp only [List.getElem?_toArray, List.getElem?_cons_zero, List.getElem?_cons_succ, Option.some.injEq] at hi
      subst hi
      have e13 : b.tmps[13]?.getD undef = .pointer (some ⟨bx, 0, none⟩) := hdat 3 13 (by simp) (by decide) (by decide) (by decide) rfl
      clear hold hdat
      show _ = Result.ok (Next.value (.pointer (some ⟨bx, 0, none⟩))) wx
      go_simp
    | 15, hi, h1, h2, h3 =>
      simp only [List.getElem?_toArray, List.getElem?_cons_zero, List.getElem?_cons_succ, Option.some.injEq] at hi
      subst hi
      have e24 : b.tmps[24]?.getD undef = .pointer (some ⟨bx, 0, none⟩) := hdat 14 24 (by simp) (by decide) (by decide) (by decide) rfl
      clear hold hdat
      show _ = Result.ok (Next.value (.pointer (some ⟨bx, 0, none⟩))) wx
      go_simp
    | 16, hi, h1, h2, h3 => exact absurd rfl h3
    | _ + 17, hi, _, _, _ => simp at hi
  · intro b wx hdat hold
    have e21 : b.tmps[21]?.getD undef = .pointer (some ⟨a, 0, none⟩) := hdat 11 21 (by simp) (by decide) (by decide) (by decide) rfl
    clear hold hdat
    go_simp
  · intro b wx gg cap hdat hsv hc hf hsh
    have e25 : b.tmps[25]?.getD undef = .pointer (some ⟨bx, 0, none⟩) := hdat 15 25 (by simp) (by decide) (by decide) (by decide) rfl
    clear hdat
    obtain ⟨x, y, z, hxs⟩ := hsh
    rw [hxs] at hc
    go_simp
  · intro f' w' gg cap h1 h2 h3 h4
    exact hend f' w' gg cap h1 h2 (fun t ht => h3 t (by revert t; decide)) h4

set_option maxRecDepth 100000 in
set_option maxHeartbeats 4000000 in
theorem add_r3 {Q : Exit → Act → World → Prop} (a q p : Nat) (rf : Nat → Value) (m BB : Nat) (xs : List Value) (f : Act) (w : World)  (q0 : w.cell? ⟨q, 0, none⟩ = some (.pointer (some ⟨p, 0, none⟩))) (q0b : q ≠ a) (q0r : (rf 17).ownBlock ≠ some q) (q1 : w.cell? ⟨q, 1, none⟩ = some (.int .u64 0)) (q1b : q ≠ a) (q1r : (rf 17).ownBlock ≠ some q) (q2 : w.cell? ⟨q, 2, none⟩ = some (.int .i64 0)) (q2b : q ≠ a) (q2r : (rf 17).ownBlock ≠ some q) (q3 : w.cell? ⟨q, 3, none⟩ = some (.pointer none)) (q3b : q ≠ a) (q3r : (rf 17).ownBlock ≠ some q)
    (hr : w.rowIs a 63 21 rf) (hown : w.ownsRow BB 137 4 (rf 17) m xs) (hm : m ≤ 1000000) (nh : (rf 17).ownBlock ≠ some a) (hBB : BB ≤ w.heap.size)
    (hsz : f.tmps.size = 36) (hds : f.defers = []) (ht0 : f.tmps[0]?.getD undef = .pointer (some ⟨a, 0, none⟩)) (ht3 : f.tmps[3]?.getD undef = .pointer (some ⟨q, 0, none⟩))
    (hend : ∀ f' w' gg cap, f'.tmps.size = 36 → f'.defers = [] → (∀ t, t < 10 → f'.tmps[t]?.getD undef = f.tmps[t]?.getD undef) → Apd w w' a 17 63 21 rf BB 137 4 m xs [.pointer (some ⟨p, 0, none⟩), .int .u64 0, .int .i64 0, .pointer none] gg cap → Q .normal f' w') :
    Code.wp Ybad.prog ((Ybad.f24.body.bind (reg 3)).getD .skip) Q f w := by
  conv => arg 2; whnf
  obtain ⟨i0, hi0, hz0, hz1, hz2⟩ := info_parts info137
  refine app_shape (N := 36) f w (by kernel_rfl) (fun i => match i with
    | 0 => .pointer (some ⟨a, 0, none⟩)
    | 1 => .pointer (some ⟨a, 0, none⟩)
    | 2 => .pointer (some ⟨a, 0, none⟩)
    | 3 => .pointer (some ⟨a, 17, none⟩)
    | 4 => rf 17
    | 5 => .agg #[.pointer (some ⟨p, 0, none⟩), .int .u64 0, .int .i64 0, .pointer none]
    | 8 => .pointer (some ⟨a, 0, none⟩)
    | 9 => .pointer (some ⟨a, 17, none⟩)
    | _ => undef) 4 6 7 10 (by decide) rfl rfl rfl a 17 63 21 rf BB 137 4 32 m xs [.pointer (some ⟨p, 0, none⟩), .int .u64 0, .int .i64 0, .pointer none] 137 61 i0 _ hr (by omega) hown hm nh hBB Ybad.underlying61 hi0 hz0 hz1 hz2 rfl (by omega) (by omega) rfl rfl (by intro q hq; simp at hq; first | (subst hq; rfl) | (rcases hq with rfl | rfl <;> rfl) | (rcases hq with rfl | rfl | rfl <;> rfl) | (rcases hq with rfl | rfl | rfl | rfl <;> rfl)) 30 32 0 33 rfl rfl rfl rfl (by simp) (by simp) rfl (by simp) rfl hsz hds ?_ ?_ ?_ ?_ ?_
  · intro i o hi h1 h2 h3
    match i, hi, h1, h2, h3 with
    | 0, hi, _, _, _ => (simp only [List.getElem?_toArray, List.getElem?_cons_zero, List.getElem?_cons_succ, Option.some.injEq] at hi; subst hi; simp)
    | 1, hi, _, _, _ => (simp only [List.getElem?_toArray, List.getElem?_cons_zero, List.getElem?_cons_succ, Option.some.injEq] at hi; subst hi; simp)
    | 2, hi, _, _, _ => (simp only [List.getElem?_toArray, List.getElem?_cons_zero, List.getElem?_cons_succ, Option.some.injEq] at hi; subst hi; simp)
    | 3, hi, _, _, _ => (simp only [List.getElem?_toArray, List.getElem?_cons_zero, List.getElem?_cons_succ, Option.some.injEq] at hi; subst hi; simp)
    | 4, hi, _, _, _ => (simp only [List.getElem?_toArray, List.getElem?_cons_zero, List.getElem?_cons_succ, Option.some.injEq] at hi; subst hi; simp)
    | 5, hi, _, _, _ => (simp only [List.getElem?_toArray, List.getElem?_cons_zero, List.getElem?_cons_succ, Option.some.injEq] at hi; subst hi; simp)
    | 6, hi, _, _, _ => (simp only [List.getElem?_toArray, List.getElem?_cons_zero, List.getElem?_cons_succ, Option.some.injEq] at hi; subst hi; simp)
    | 7, hi, _, _, _ => (simp only [List.getElem?_toArray, List.getElem?_cons_zero, List.getElem?_cons_succ, Option.some.injEq] at hi; subst hi; simp)
    | 8, hi, _, _, _ => (simp only [List.getElem?_toArray, List.getElem?_cons_zero, List.getElem?_cons_succ, Option.some.injEq] at hi; subst hi; simp)
    | 9, hi, _, _, _ => (simp only [List.getElem?_toArray, List.getElem?_cons_zero, List.getElem?_cons_succ, Option.some.injEq] at hi; subst hi; simp)
    | 10, hi, h1, h2, h3 => exact absurd rfl h3
    | _ + 11, hi, _, _, _ => simp at hi
  · intro i o hi h1 h2 h3 b wx hcl hhd hdat hold
    match i, hi, h1, h2, h3 with
    | 0, hi, h1, h2, h3 =>
      simp only [List.getElem?_toArray, List.getElem?_cons_zero, List.getElem?_cons_succ, Option.some.injEq] at hi
      subst hi
      have e0 : b.tmps[0]?.getD undef = .pointer (some ⟨a, 0, none⟩) := (hold 0 (by decide)).trans ht0
      clear hold hdat
      show _ = Result.ok (Next.value (.pointer (some ⟨a, 0, none⟩))) wx
      go_simp
    | 1, hi, h1, h2, h3 =>
      simp only [List.getElem?_toArray, List.getElem?_cons_zero, List.getElem?_cons_succ, Option.some.injEq] at hi
      subst hi
      have e0 : b.tmps[0]?.getD undef = .pointer (some ⟨a, 0, none⟩) := (hold 0 (by decide)).trans ht0
      clear hold hdat
      show _ = Result.ok (Next.value (.pointer (some ⟨a, 0, none⟩))) wx
      go_simp
    | 2, hi, h1, h2, h3 =>
      simp only [List.getElem?_toArray, List.getElem?_cons_zero, List.getElem?_cons_succ, Option.some.injEq] at hi
      subst hi
      have e27 : b.tmps[27]?.getD undef = .pointer (some ⟨a, 0, none⟩) := hdat 1 27 (by simp) (by decide) (by decide) (by decide) rfl
      clear hold hdat
      show _ = Result.ok (Next.value (.pointer (some ⟨a, 0, none⟩))) wx
      go_simp
    | 3, hi, h1, h2, h3 =>
      simp only [List.getElem?_toArray, List.getElem?_cons_zero, List.getElem?_cons_succ, Option.some.injEq] at hi
      subst hi
      have e28 : b.tmps[28]?.getD undef = .pointer (some ⟨a, 0, none⟩) := hdat 2 28 (by simp) (by decide) (by decide) (by decide) rfl
      clear hold hdat
      show _ = Result.ok (Next.value (.pointer (some ⟨a, 17, none⟩))) wx
      go_simp
    | 4, hi, h1, h2, h3 =>
      simp only [List.getElem?_toArray, List.getElem?_cons_zero, List.getElem?_cons_succ, Option.some.injEq] at hi
      subst hi
      have e29 : b.tmps[29]?.getD undef = .pointer (some ⟨a, 17, none⟩) := hdat 3 29 (by simp) (by decide) (by decide) (by decide) rfl
      clear hold hdat
      have hh := hhd (by simp)
      obtain ⟨xa, xc, hxs, _⟩ := own_shape hown
      rw [hxs] at hh
      show _ = Result.ok (Next.value (rf 17)) wx
      rw [hxs]
      go_simp
    | 5, hi, h1, h2, h3 =>
      simp only [List.getElem?_toArray, List.getElem?_cons_zero, List.getElem?_cons_succ, Option.some.injEq] at hi
      subst hi
      have e3 : b.tmps[3]?.getD undef = .pointer (some ⟨q, 0, none⟩) := (hold 3 (by decide)).trans ht3
      clear hold hdat
      have kq0 := hcl _ _ q0 (by simpa using q0b) (by simpa using q0r)
      have kq1 := hcl _ _ q1 (by simpa using q1b) (by simpa using q1r)
      have kq2 := hcl _ _ q2 (by simpa using q2b) (by simpa using q2r)
      have kq3 := hcl _ _ q3 (by simpa using q3b) (by simpa using q3r)
      show _ = Result.ok (Next.value (.agg #[.pointer (some ⟨p, 0, none⟩), .int .u64 0, .int .i64 0, .pointer none])) wx
      go_simp
    | 6, hi, h1, h2, h3 => exact absurd rfl h1
    | 7, hi, h1, h2, h3 => exact absurd rfl h2
    | 8, hi, h1, h2, h3 =>
      simp only [List.getElem?_toArray, List.getElem?_cons_zero, List.getElem?_cons_succ, Option.some.injEq] at hi
      subst hi
      have e26 : b.tmps[26]?.getD undef = .pointer (some ⟨a, 0, none⟩) := hdat 0 26 (by simp) (by decide) (by decide) (by decide) rfl
      clear hold hdat
      show _ = Result.ok (Next.value (.pointer (some ⟨a, 0, none⟩))) wx
      go_simp
    | 9, hi, h1, h2, h3 =>
      simp only [List.getElem?_toArray, List.getElem?_cons_zero, List.getElem?_cons_succ, Option.some.injEq] at hi
      subst hi
      have e34 : b.tmps[34]?.getD undef = .pointer (some ⟨a, 0, none⟩) := hdat 8 34 (by simp) (by decide) (by decide) (by decide) rfl
      clear hold hdat
      show _ = Result.ok (Next.value (.pointer (some ⟨a, 17, none⟩))) wx
      go_simp
    | 10, hi, h1, h2, h3 => exact absurd rfl h3
    | _ + 11, hi, _, _, _ => simp at hi
  · intro b wx hdat hold
    have e31 : b.tmps[31]?.getD undef = .agg #[.pointer (some ⟨p, 0, none⟩), .int .u64 0, .int .i64 0, .pointer none] := hdat 5 31 (by simp) (by decide) (by decide) (by decide) rfl
    clear hold hdat
    go_simp
  · intro b wx gg cap hdat hsv hc hf hsh
    have e35 : b.tmps[35]?.getD undef = .pointer (some ⟨a, 17, none⟩) := hdat 9 35 (by simp) (by decide) (by decide) (by decide) rfl
    clear hdat
    obtain ⟨x, y, z, hxs⟩ := hsh
    rw [hxs] at hc
    go_simp
  · intro f' w' gg cap h1 h2 h3 h4
    exact hend f' w' gg cap h1 h2 (fun t ht => h3 t (by revert t; decide)) h4
end Go.Proofs.YbulkbndkDoor.Pr
