/-
  What the staircase's 'add' makes of a staircase of one or of two steps, in plain words.
-/
import Derived.Test.YbulkbnbuStair
import Derived.Test.YbulkbnbuPlainB
namespace Go.Proofs.Ybulkbnbu.Kn
set_option linter.unusedSimpArgs false
set_option linter.unusedVariables false
open Go.Proofs.Ybulkbnbu.Pl

/-- The staircase xs, us is the function G up to room. -/
structure Rep (xs us : List Nat) (room : Nat) (G : Nat → Nat) : Prop where
  len : us.length = xs.length
  pos : 0 < xs.length
  zero : xs.getD 0 0 = 0
  sort : xs.Pairwise (· < ·)
  le : ∀ x ∈ xs, x ≤ room
  val : ∀ c p, c ≤ room → p < xs.length → xs.getD p 0 ≤ c → (p + 1 < xs.length → c < xs.getD (p + 1) 0) → G c = us.getD p 0
/-- How the switches tell what is taken. -/
def Sw (seg : List Nat) (room : Nat) (t : Nat → Bool) : Prop := seg.Pairwise (· < ·) ∧ ∀ c, c ≤ room → t c = decide (seg.countP (fun y => decide (y ≤ c)) % 2 = 1)

theorem added1 (sw : List Nat) (s v : Nat) (hs : 1 ≤ s) : added [0] [0] sw s v = if v = 0 then ⟨1, 0, 0, 0, false, [0], [0], sw⟩ else ⟨1, 0, v, v, true, [0, s], [0, v], sw ++ [s]⟩ := by
  have h1 : 0 < s := by omega
  by_cases hv : v = 0
  · subst hv
    simp [added, st0, sweep, outer, inner, hitB, outB, h1]
  · have h2 : 0 < v := by omega
    simp [added, st0, sweep, outer, inner, hitB, outB, h1, hv, h2]

theorem added2_lt (sw : List Nat) (s v a u : Nat) (hs : 1 ≤ s) (hu : 0 < u) (hsa : s < a) : added [0, a] [0, u] sw s v =
    if v = 0 then ⟨2, u, u, u, false, [0, a], [0, u], sw⟩ else if v < u then ⟨2, u, u + v, u + v, true, [0, s, a, a + s], [0, v, u, u + v], sw ++ [s, a, a + s]⟩ else if v = u then ⟨2, u, u + v, u + v, true, [0, s, a + s], [0, v, u + v], sw ++ [s, a, a + s]⟩ else ⟨2, u, u + v, u + v, true, [0, s, a + s], [0, v, u + v], sw ++ [s]⟩ := by
  have h1 : 0 < s := by omega
  have h2 : ¬ a < s := by omega
  have h3 : ¬ a = s := by omega
  have h4 : a < a + s := by omega
  by_cases hv : v = 0
  · subst hv
    simp [added, st0, sweep, outer, inner, inA, hitB, outB, h1, h2, h3, h4, hu]
  · have h5 : 0 < v := by omega
    by_cases h6 : v < u
    · have h7 : v ≤ u := by omega
      have h8 : u < u + v := by omega
      have h9 : max (u + v) u = u + v := by omega
      simp [added, st0, sweep, outer, inner, inA, hitB, outB, h1, h2, h3, h4, hu, hv, h5, h6, h7, h8, h9]
    · by_cases h10 : v = u
      · subst h10
        have h8 : v < v + v := by omega
        have h9 : max (v + v) v = v + v := by omega
        simp [added, st0, sweep, outer, inner, inA, hitB, outB, h1, h2, h3, h4, hu, hv, h5, h6, h8, h9]
      · have h7 : ¬ v ≤ u := by omega
        have h8 : u < u + v := by omega
        have h9 : max (u + v) u = u + v := by omega
        have h11 : v < u + v := by omega
        simp [added, st0, sweep, outer, inner, inA, hitB, outB, h1, h2, h3, h4, hu, hv, h5, h6, h7, h8, h9, h10, h11]

theorem added2_eq (sw : List Nat) (s v u : Nat) (hs : 1 ≤ s) (hu : 0 < u) : added [0, s] [0, u] sw s v =
    if v = 0 then ⟨2, u, u, u, false, [0, s], [0, u], sw⟩ else if u < v then ⟨2, u, u + v, u + v, true, [0, s, s + s], [0, v, u + v], sw ++ [s]⟩ else ⟨2, u, u + v, u + v, true, [0, s, s + s], [0, u, u + v], sw ++ [s + s]⟩ := by
  have h1 : 0 < s := by omega
  by_cases hv : v = 0
  · subst hv
    simp [added, st0, sweep, outer, inner, inA, hitB, outB, h1, hu]
  · have h5 : 0 < v := by omega
    have h8 : u < u + v := by omega
    have h9 : max (u + v) u = u + v := by omega
    by_cases h6 : u < v
    · have h7 : max v u = v := by omega
      have h10 : v < u + v := by omega
      simp [added, st0, sweep, outer, inner, inA, hitB, outB, h1, hu, hv, h5, h6, h7, h8, h9, h10]
    · have h7 : max v u = u := by omega
      simp [added, st0, sweep, outer, inner, inA, hitB, outB, h1, hu, hv, h5, h6, h7, h8, h9]

theorem added2_gt (sw : List Nat) (s v a u : Nat) (ha : 1 ≤ a) (hu : 0 < u) (hsa : a < s) : added [0, a] [0, u] sw s v =
    if v = 0 then ⟨2, u, u, u, false, [0, a], [0, u], sw⟩ else if u < v then ⟨2, u, u + v, u + v, true, [0, a, s, a + s], [0, u, v, u + v], sw ++ [s]⟩ else ⟨2, u, u + v, u + v, true, [0, a, a + s], [0, u, u + v], sw ++ [a + s]⟩ := by
  have h1 : 0 < s := by omega
  by_cases hv : v = 0
  · subst hv
    have h7 : max 0 u = u := by omega
    simp [added, st0, sweep, outer, inner, inA, hitB, outB, h1, hu, hsa, h7]
  · have h5 : 0 < v := by omega
    have h8 : u < u + v := by omega
    have h9 : max (u + v) u = u + v := by omega
    by_cases h6 : u < v
    · have h7 : max v u = v := by omega
      have h10 : v < u + v := by omega
      simp [added, st0, sweep, outer, inner, inA, hitB, outB, h1, hu, hsa, hv, h5, h6, h7, h8, h9, h10]
    · have h7 : max v u = u := by omega
      simp [added, st0, sweep, outer, inner, inA, hitB, outB, h1, hu, hsa, hv, h5, h6, h7, h8, h9]

/-- A staircase of one step, of two, or of three or four. -/
def Md (xs us : List Nat) : Prop := (xs = [0] ∧ us = [0]) ∨ (∃ a u, xs = [0, a] ∧ us = [0, u] ∧ 1 ≤ a ∧ a ≤ 7 ∧ 0 < u ∧ u ≤ 9) ∨ (3 ≤ xs.length ∧ xs.length ≤ 4 ∧ ∀ x ∈ us, x ≤ 18)

theorem F1 {room k : Nat} {sf vf : Nat → Nat} (hR : Rep [0] [0] room (F sf vf k)) (c : Nat) (hc : c ≤ room) : F sf vf k c = 0 := by
  simpa using hR.val c 0 hc (by simp) (by simp) (by simp)
theorem F2 {room k a u : Nat} {sf vf : Nat → Nat} (hR : Rep [0, a] [0, u] room (F sf vf k)) (c : Nat) (hc : c ≤ room) : F sf vf k c = if a ≤ c then u else 0 := by
  by_cases h : a ≤ c
  · rw [if_pos h]; simpa using hR.val c 1 hc (by simp) (by simpa using h) (by simp)
  · rw [if_neg h]; simpa using hR.val c 0 hc (by simp) (by simp) (by simp; omega)

/-- A new function of the same kind: on three or four steps. -/
theorem rep3 {room x1 x2 y1 y2 : Nat} {G : Nat → Nat} (h1 : 0 < x1) (h2 : x1 < x2) (h3 : x2 ≤ room) (hG : ∀ c, c ≤ room → G c = if x2 ≤ c then y2 else if x1 ≤ c then y1 else 0) : Rep [0, x1, x2] [0, y1, y2] room G := by
  refine ⟨rfl, by simp, rfl, by simp; omega, by simp; omega, fun c p hc hp hx hn => ?_⟩
  simp at hp
  rw [hG c hc]
  match p, hp with
  | 0, _ =>
    have hn' : c < x1 := hn (by simp)
    show _ = 0
    rw [if_neg (by omega), if_neg (by omega)]
  | 1, _ =>
    have hx' : x1 ≤ c := hx
    have hn' : c < x2 := hn (by simp)
    show _ = y1
    rw [if_neg (by omega), if_pos hx']
  | 2, _ =>
    have hx' : x2 ≤ c := hx
    show _ = y2
    rw [if_pos hx']
theorem rep4 {room x1 x2 x3 y1 y2 y3 : Nat} {G : Nat → Nat} (h1 : 0 < x1) (h2 : x1 < x2) (h3 : x2 < x3) (h4 : x3 ≤ room) (hG : ∀ c, c ≤ room → G c = if x3 ≤ c then y3 else if x2 ≤ c then y2 else if x1 ≤ c then y1 else 0) : Rep [0, x1, x2, x3] [0, y1, y2, y3] room G := by
  refine ⟨rfl, by simp, rfl, by simp; omega, by simp; omega, fun c p hc hp hx hn => ?_⟩
  simp at hp
  rw [hG c hc]
  match p, hp with
  | 0, _ =>
    have hn' : c < x1 := hn (by simp)
    show _ = 0
    rw [if_neg (by omega), if_neg (by omega), if_neg (by omega)]
  | 1, _ =>
    have hx' : x1 ≤ c := hx
    have hn' : c < x2 := hn (by simp)
    show _ = y1
    rw [if_neg (by omega), if_neg (by omega), if_pos hx']
  | 2, _ =>
    have hx' : x2 ≤ c := hx
    have hn' : c < x3 := hn (by simp)
    show _ = y2
    rw [if_neg (by omega), if_pos hx']
  | 3, _ =>
    have hx' : x3 ≤ c := hx
    show _ = y3
    rw [if_pos hx']
theorem rep2 {room x1 y1 : Nat} {G : Nat → Nat} (h1 : 0 < x1) (h3 : x1 ≤ room) (hG : ∀ c, c ≤ room → G c = if x1 ≤ c then y1 else 0) : Rep [0, x1] [0, y1] room G := by
  refine ⟨rfl, by simp, rfl, by simp; omega, by simp; omega, fun c p hc hp hx hn => ?_⟩
  simp at hp
  rw [hG c hc]
  match p, hp with
  | 0, _ =>
    have hn' : c < x1 := hn (by simp)
    show _ = 0
    rw [if_neg (by omega)]
  | 1, _ =>
    have hx' : x1 ≤ c := hx
    show _ = y1
    rw [if_pos hx']
theorem rep1 {room : Nat} {G : Nat → Nat} (hG : ∀ c, c ≤ room → G c = 0) : Rep [0] [0] room G := by
  refine ⟨rfl, by simp, rfl, by simp, by simp, fun c p hc hp hx hn => ?_⟩
  simp at hp
  subst hp
  rw [hG c hc]; rfl

theorem sw0 {room : Nat} {t : Nat → Bool} (h : ∀ c, c ≤ room → t c = false) : Sw [] room t := ⟨by simp, fun c hc => by rw [h c hc]; rfl⟩
theorem sw1 {room x : Nat} {t : Nat → Bool} (h : ∀ c, c ≤ room → t c = decide (x ≤ c)) : Sw [x] room t := ⟨by simp, fun c hc => by
  rw [h c hc]
  by_cases e : x ≤ c <;> simp [e]⟩
theorem sw3 {room x y z : Nat} {t : Nat → Bool} (h1 : x < y) (h2 : y < z) (h : ∀ c, c ≤ room → t c = decide ((x ≤ c ∧ c < y) ∨ z ≤ c)) : Sw [x, y, z] room t := ⟨by simp; omega, fun c hc => by
  rw [h c hc]
  by_cases e1 : x ≤ c
  · by_cases e2 : y ≤ c
    · by_cases e3 : z ≤ c
      · simp [e1, e2, e3]
      · have : ¬ c < y := by omega
        simp [e1, e2, e3, this]
    · have e3 : ¬ z ≤ c := by omega
      have : c < y := by omega
      simp [e1, e2, e3, this]
  · have e2 : ¬ y ≤ c := by omega
    have e3 : ¬ z ≤ c := by omega
    simp [e1, e2, e3]⟩

/-- ONE ITEM MORE. -/
structure Next (xs us sw : List Nat) (s v room k : Nat) (sf vf : Nat → Nat) : Prop where
  p : (added xs us sw s v).p = xs.length
  rep : Rep (added xs us sw s v).xs (added xs us sw s v).us room (F sf vf (k + 1))
  md : Md (added xs us sw s v).xs (added xs us sw s v).us
  sw : ∃ seg, (added xs us sw s v).sw = sw ++ seg ∧ Sw seg room (T sf vf k) ∧ seg.length ≤ 3

theorem next_of (xs us sw : List Nat) (s v room k : Nat) (sf vf : Nat → Nat) (hR : Rep xs us room (F sf vf k)) (hM : Md xs us) (hl : xs.length ≤ room / 16) (hroom : room ≤ 47) (hsf : sf k = s) (hvf : vf k = v) (hs : 1 ≤ s) (hs7 : s ≤ 7) (hv9 : v ≤ 9) : Next xs us sw s v room k sf vf := by
  have hT : ∀ c, T sf vf k c = decide (s ≤ c ∧ F sf vf k c < F sf vf k (c - s) + v) := fun c => by unfold T; rw [hsf, hvf]
  have hF : ∀ c, F sf vf (k + 1) c = if s ≤ c ∧ F sf vf k c < F sf vf k (c - s) + v then F sf vf k (c - s) + v else F sf vf k c := fun c => by simp only [F]; rw [hsf, hvf]
  rcases hM with ⟨rfl, rfl⟩ | ⟨a, u, rfl, rfl, ha, ha7, hu, hu9⟩ | ⟨h3, _⟩
  · have hF1 := F1 hR
    simp at hl
    have e := added1 sw s v hs
    by_cases hv : v = 0
    · rw [if_pos hv] at e
      refine ⟨by rw [e]; rfl, ?_, ?_, ⟨[], ?_, sw0 (fun c hc => ?_), by simp⟩⟩
      · rw [e]; refine rep1 (fun c hc => ?_)
        rw [hF, hF1 c hc, hF1 (c - s) (by omega), hv]; simp
      · rw [e]; exact Or.inl ⟨rfl, rfl⟩
      · rw [e]; simp
      · rw [hT, hF1 c hc, hF1 (c - s) (by omega), hv]; simp
    · rw [if_neg hv] at e
      refine ⟨by rw [e]; rfl, ?_, ?_, ⟨[s], ?_, sw1 (fun c hc => ?_), by simp⟩⟩
      · rw [e]; refine rep2 (by omega) (by omega) (fun c hc => ?_)
        rw [hF, hF1 c hc, hF1 (c - s) (by omega)]
        by_cases h : s ≤ c
        · rw [if_pos ⟨h, by omega⟩, if_pos h]; omega
        · rw [if_neg (fun x => h x.1), if_neg h]
      · rw [e]; exact Or.inr (Or.inl ⟨s, v, rfl, rfl, hs, hs7, by omega, hv9⟩)
      · rw [e]
      · rw [hT, hF1 c hc, hF1 (c - s) (by omega)]
        by_cases h : s ≤ c
        · simp [h]; omega
        · simp [h]
  · have hF2 := F2 hR
    simp at hl
    have hTT : ∀ c, c ≤ room → T sf vf k c = decide (s ≤ c ∧ (if a ≤ c then u else 0) < (if a ≤ c - s then u else 0) + v) := fun c hc => by rw [hT, hF2 c hc, hF2 (c - s) (by omega)]
    have hFF : ∀ c, c ≤ room → F sf vf (k + 1) c = if s ≤ c ∧ (if a ≤ c then u else 0) < (if a ≤ c - s then u else 0) + v then (if a ≤ c - s then u else 0) + v else (if a ≤ c then u else 0) := fun c hc => by rw [hF, hF2 c hc, hF2 (c - s) (by omega)]
    by_cases hv : v = 0
    · have e : added [0, a] [0, u] sw s v = ⟨2, u, u, u, false, [0, a], [0, u], sw⟩ := by
        rcases Nat.lt_trichotomy s a with h | h | h
        · rw [added2_lt sw s v a u hs hu h, if_pos hv]
        · subst h; rw [added2_eq sw s v u hs hu, if_pos hv]
        · rw [added2_gt sw s v a u ha hu h, if_pos hv]
      refine ⟨by rw [e]; rfl, ?_, ?_, ⟨[], ?_, sw0 (fun c hc => ?_), by simp⟩⟩
      · rw [e]; refine rep2 (by omega) (by omega) (fun c hc => ?_)
        rw [hFF c hc, if_neg]
        rintro ⟨h1, h2⟩
        split at h2 <;> split at h2 <;> omega
      · rw [e]; exact Or.inr (Or.inl ⟨a, u, rfl, rfl, ha, ha7, hu, hu9⟩)
      · rw [e]; simp
      · rw [hTT c hc]
        apply decide_eq_false
        rintro ⟨h1, h2⟩
        split at h2 <;> split at h2 <;> omega
    · have mdx : ∀ {xs us : List Nat}, 3 ≤ xs.length → xs.length ≤ 4 → (∀ x ∈ us, x ≤ 18) → Md xs us := fun h1 h2 h3 => Or.inr (Or.inr ⟨h1, h2, h3⟩)
      rcases Nat.lt_trichotomy s a with h | h | h
      · have e := added2_lt sw s v a u hs hu h
        rw [if_neg hv] at e
        by_cases h6 : v < u
        · rw [if_pos h6] at e
          refine ⟨by rw [e]; rfl, ?_, ?_, ⟨[s, a, a + s], ?_, sw3 h (by omega) (fun c hc => ?_), by simp⟩⟩
          · rw [e]; refine rep4 (by omega) h (by omega) (by omega) (fun c hc => ?_)
            rw [hFF c hc]; (repeat' split) <;> omega
          · rw [e]; exact mdx (by simp) (by simp) (by simp; omega)
          · rw [e]
          · rw [hTT c hc]; congr 1; apply propext; constructor <;> intro hh
            · (repeat' split at hh) <;> omega
            · (repeat' split) <;> omega
        · rw [if_neg h6] at e
          by_cases h7 : v = u
          · rw [if_pos h7] at e
            refine ⟨by rw [e]; rfl, ?_, ?_, ⟨[s, a, a + s], ?_, sw3 h (by omega) (fun c hc => ?_), by simp⟩⟩
            · rw [e]; refine rep3 (by omega) (by omega) (by omega) (fun c hc => ?_)
              rw [hFF c hc]; (repeat' split) <;> omega
            · rw [e]; exact mdx (by simp) (by simp) (by simp; omega)
            · rw [e]
            · rw [hTT c hc]; congr 1; apply propext; constructor <;> intro hh
              · (repeat' split at hh) <;> omega
              · (repeat' split) <;> omega
          · rw [if_neg h7] at e
            refine ⟨by rw [e]; rfl, ?_, ?_, ⟨[s], ?_, sw1 (fun c hc => ?_), by simp⟩⟩
            · rw [e]; refine rep3 (by omega) (by omega) (by omega) (fun c hc => ?_)
              rw [hFF c hc]; (repeat' split) <;> omega
            · rw [e]; exact mdx (by simp) (by simp) (by simp; omega)
            · rw [e]
            · rw [hTT c hc]; congr 1; apply propext; constructor <;> intro hh
              · (repeat' split at hh) <;> omega
              · (repeat' split) <;> omega
      · subst h
        have e := added2_eq sw s v u hs hu
        rw [if_neg hv] at e
        by_cases h6 : u < v
        · rw [if_pos h6] at e
          refine ⟨by rw [e]; rfl, ?_, ?_, ⟨[s], ?_, sw1 (fun c hc => ?_), by simp⟩⟩
          · rw [e]; refine rep3 (by omega) (by omega) (by omega) (fun c hc => ?_)
            rw [hFF c hc]; (repeat' split) <;> omega
          · rw [e]; exact mdx (by simp) (by simp) (by simp; omega)
          · rw [e]
          · rw [hTT c hc]; congr 1; apply propext; constructor <;> intro hh
            · (repeat' split at hh) <;> omega
            · (repeat' split) <;> omega
        · rw [if_neg h6] at e
          refine ⟨by rw [e]; rfl, ?_, ?_, ⟨[s + s], ?_, sw1 (fun c hc => ?_), by simp⟩⟩
          · rw [e]; refine rep3 (by omega) (by omega) (by omega) (fun c hc => ?_)
            rw [hFF c hc]; (repeat' split) <;> omega
          · rw [e]; exact mdx (by simp) (by simp) (by simp; omega)
          · rw [e]
          · rw [hTT c hc]; congr 1; apply propext; constructor <;> intro hh
            · (repeat' split at hh) <;> omega
            · (repeat' split) <;> omega
      · have e := added2_gt sw s v a u ha hu h
        rw [if_neg hv] at e
        by_cases h6 : u < v
        · rw [if_pos h6] at e
          refine ⟨by rw [e]; rfl, ?_, ?_, ⟨[s], ?_, sw1 (fun c hc => ?_), by simp⟩⟩
          · rw [e]; refine rep4 (by omega) (by omega) (by omega) (by omega) (fun c hc => ?_)
            rw [hFF c hc]; (repeat' split) <;> omega
          · rw [e]; exact mdx (by simp) (by simp) (by simp; omega)
          · rw [e]
          · rw [hTT c hc]; congr 1; apply propext; constructor <;> intro hh
            · (repeat' split at hh) <;> omega
            · (repeat' split) <;> omega
        · rw [if_neg h6] at e
          refine ⟨by rw [e]; rfl, ?_, ?_, ⟨[a + s], ?_, sw1 (fun c hc => ?_), by simp⟩⟩
          · rw [e]; refine rep3 (by omega) (by omega) (by omega) (fun c hc => ?_)
            rw [hFF c hc]; (repeat' split) <;> omega
          · rw [e]; exact mdx (by simp) (by simp) (by simp; omega)
          · rw [e]
          · rw [hTT c hc]; congr 1; apply propext; constructor <;> intro hh
            · (repeat' split at hh) <;> omega
            · (repeat' split) <;> omega
  · omega
end Go.Proofs.Ybulkbnbu.Kn
