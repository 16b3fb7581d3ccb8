/-
  'zzs3191bcheck' (function 8): the arcs laid, the triple loop.
-/
import Derived.Test.YbulkbnbgDoorFw
namespace Go.Proofs.YbulkbnbgDoor.Pr
set_option linter.unusedSimpArgs false
open Go.ChangeShapes Go.WideShapes Go.ChangeAt Go.RowKit

theorem lit218 (b : Act) (g : Nat → Value) (hg : ∀ t, b.tmps[t]?.getD undef = g t) (hN : b.tmps.size = 218) (hd : b.defers = []) : b = { tmps := (g 0 :: g 1 :: g 2 :: g 3 :: g 4 :: g 5 :: g 6 :: g 7 :: g 8 :: g 9 :: g 10 :: g 11 :: g 12 :: g 13 :: g 14 :: g 15 :: g 16 :: g 17 :: g 18 :: g 19 :: g 20 :: g 21 :: g 22 :: g 23 :: g 24 :: g 25 :: g 26 :: g 27 :: g 28 :: g 29 :: g 30 :: g 31 :: g 32 :: g 33 :: g 34 :: g 35 :: g 36 :: g 37 :: g 38 :: g 39 :: g 40 :: g 41 :: g 42 :: g 43 :: g 44 :: g 45 :: g 46 :: g 47 :: g 48 :: g 49 :: g 50 :: g 51 :: g 52 :: g 53 :: g 54 :: g 55 :: g 56 :: g 57 :: g 58 :: g 59 :: g 60 :: g 61 :: g 62 :: g 63 :: g 64 :: g 65 :: g 66 :: g 67 :: g 68 :: g 69 :: g 70 :: g 71 :: g 72 :: g 73 :: g 74 :: g 75 :: g 76 :: g 77 :: g 78 :: g 79 :: g 80 :: g 81 :: g 82 :: g 83 :: g 84 :: g 85 :: g 86 :: g 87 :: g 88 :: g 89 :: g 90 :: g 91 :: g 92 :: g 93 :: g 94 :: g 95 :: g 96 :: g 97 :: g 98 :: g 99 :: g 100 :: g 101 :: g 102 :: g 103 :: g 104 :: g 105 :: g 106 :: g 107 :: g 108 :: g 109 :: g 110 :: g 111 :: g 112 :: g 113 :: g 114 :: g 115 :: g 116 :: g 117 :: g 118 :: g 119 :: g 120 :: g 121 :: g 122 :: g 123 :: g 124 :: g 125 :: g 126 :: g 127 :: g 128 :: g 129 :: g 130 :: g 131 :: g 132 :: g 133 :: g 134 :: g 135 :: g 136 :: g 137 :: g 138 :: g 139 :: g 140 :: g 141 :: g 142 :: g 143 :: g 144 :: g 145 :: g 146 :: g 147 :: g 148 :: g 149 :: g 150 :: g 151 :: g 152 :: g 153 :: g 154 :: g 155 :: g 156 :: g 157 :: g 158 :: g 159 :: g 160 :: g 161 :: g 162 :: g 163 :: g 164 :: g 165 :: g 166 :: g 167 :: g 168 :: g 169 :: g 170 :: g 171 :: g 172 :: g 173 :: g 174 :: g 175 :: g 176 :: g 177 :: g 178 :: g 179 :: g 180 :: g 181 :: g 182 :: g 183 :: g 184 :: g 185 :: g 186 :: g 187 :: g 188 :: g 189 :: g 190 :: g 191 :: g 192 :: g 193 :: g 194 :: g 195 :: g 196 :: g 197 :: g 198 :: g 199 :: g 200 :: g 201 :: g 202 :: g 203 :: g 204 :: g 205 :: g 206 :: g 207 :: g 208 :: g 209 :: g 210 :: g 211 :: g 212 :: g 213 :: g 214 :: g 215 :: g 216 :: g 217 :: []).toArray, defers := [] } := by
  obtain ⟨tm, df⟩ := b
  obtain rfl : df = [] := hd
  obtain rfl : (fun t => tm[t]?.getD undef) = g := funext hg
  exact congrArg (fun x => Act.mk x []) (tmps_eq hN)

/-- The check's own table. -/
def Bm (n rB : Nat) (q : Nat → Nat → Bool) (w : World) : Prop := w.rowIs rB 4 (n * n) (fun j => .bool (q (j / n) (j % n)))
theorem idx_div {n x y : Nat} (hy : y < n) : (x * n + y) / n = x := by rw [Nat.mul_comm, Nat.mul_add_div (by omega), Nat.div_eq_of_lt hy]; omega
theorem idx_mod {n x y : Nat} (hy : y < n) : (x * n + y) % n = y := by rw [Nat.mul_comm, Nat.mul_add_mod, Nat.mod_eq_of_lt hy]
theorem Bm.cell {n rB : Nat} {q : Nat → Nat → Bool} {w : World} (h : Bm n rB q w) {x y : Nat} (hx : x < n) (hy : y < n) : w.cell? ⟨rB, x * n + y, none⟩ = some (.bool (q x y)) := by
  have := World.rowIs.cell h (lit_lt hx hy)
  simp only [idx_div hy, idx_mod hy] at this
  exact this
theorem Bm.congr {n rB : Nat} {q q' : Nat → Nat → Bool} {w : World} (h : Bm n rB q w) (e : ∀ x y, x < n → y < n → q x y = q' x y) : Bm n rB q' w :=
  World.rowIs.congr h fun j hj => by
    have hn : 0 < n := by rcases Nat.eq_zero_or_pos n with e | e; · subst e; omega
                          · exact e
    exact congrArg Value.bool (e _ _ (Nat.div_lt_of_lt_mul hj) (Nat.mod_lt _ hn))
theorem Bm.set {n rB : Nat} {q : Nat → Nat → Bool} {w : World} (h : Bm n rB q w) {x y : Nat} (hy : y < n) : Bm n rB (fun a b => if a = x ∧ b = y then true else q a b) (w.setCell ⟨rB, x * n + y, none⟩ (.bool true)) :=
  (World.rowIs.set h (x * n + y) (.bool true)).congr fun j hj => by
    by_cases e : j = x * n + y
    · subst e; simp only [idx_div hy, idx_mod hy]; simp
    · rw [if_neg e]
      have : ¬ (j / n = x ∧ j % n = y) := fun h => e (by rw [← h.1, ← h.2, Nat.mul_comm]; exact (Nat.div_add_mod j n).symm)
      exact (congrArg Value.bool (if_neg this)).symm
theorem idx_int {n x y : Nat} (hx : x < n) (hy : y < n) (hn : n ≤ 80) : 0 ≤ (x : Int) * (n : Int) ∧ (x : Int) * (n : Int) + (y : Int) < ((n * n : Nat) : Int) ∧ (n * n : Nat) ≤ 6400 ∧ ((x : Int) * (n : Int) + (y : Int)).toNat = x * n + y := by
  have h1 := lit_lt hx hy
  have h2 : n * n ≤ 80 * 80 := Nat.mul_le_mul hn hn
  have e : (x : Int) * (n : Int) = ((x * n : Nat) : Int) := by push_cast; rfl
  omega

/-- The check's frame. -/
def Fz (P n : Nat) (vu vv : Value) (rB : Nat) (f : Act) : Prop :=
  f.tmps.size = 218 ∧ f.defers = [] ∧ f.tmps[0]?.getD undef = .pointer (some ⟨P, 0, none⟩) ∧ f.tmps[1]?.getD undef = .int .i64 (n : Int) ∧ f.tmps[2]?.getD undef = vu ∧ f.tmps[3]?.getD undef = vv ∧ f.tmps[9]?.getD undef = .slice (some ⟨rB, 0, none⟩) (n * n) (n * n)

/-- The two logs, as the check reads them. -/
def Rd (ps : List (Nat × Nat)) (vu vv : Value) (w : World) : Prop := w.ownsRow 0 3 1 vu ps.length (ints (ps.map (·.1))) ∧ w.ownsRow 0 3 1 vv ps.length (ints (ps.map (·.2)))

theorem int_shape {w : World} {v : Value} {xs : List Nat} {m : Nat} (h : w.ownsRow 0 3 1 v m (ints xs)) (hm : xs.length = m) : ∃ ao cap, v = .slice ao m cap ∧ ∀ i l : Nat, xs[i]? = some l → ∃ g, ao = some ⟨g, 0, none⟩ ∧ v.ownBlock = some g ∧ w.cell? ⟨g, i, none⟩ = some (.int .i64 (l : Int)) := by
  subst hm
  rcases h.2 with ⟨hv, hx⟩ | ⟨g, cap, cur, hv, _⟩
  · refine ⟨none, 0, by rw [hv, hx], fun i l hl => ?_⟩
    have hi : i < xs.length := (List.getElem?_eq_some_iff.1 hl).1
    omega
  · refine ⟨_, cap, hv, fun i l hl => ⟨g, rfl, by rw [hv]; rfl, ?_⟩⟩
    have hi : i < xs.length := (List.getElem?_eq_some_iff.1 hl).1
    have ho := h
    rw [hv] at ho
    rw [ho.cellAt i (by omega)]
    simp [ints, hl]


theorem wrap_i64 (x : Int) (h1 : 0 ≤ x) (h2 : x ≤ 6400) : IntKind.i64.wrap x = x := by rw [IntKind.wrap_i64]; omega

def stVal (rB gu gv l uc vc i x y n : Nat) (j : Nat) (_ : Unit) (v' : Value) (_ : World) : Prop :=
  match j with
  | 0 => v' = .slice (some ⟨rB, 0, none⟩) (n * n) (n * n)
  | 1 => v' = .slice (some ⟨gu, 0, none⟩) l uc
  | 2 => v' = .int .i64 (i : Int)
  | 3 => v' = .pointer (some ⟨gu, i, none⟩)
  | 4 => v' = .int .i64 (x : Int)
  | 5 => v' = .int .i64 (n : Int)
  | 6 => v' = .int .i64 ((x : Int) * (n : Int))
  | 7 => v' = .slice (some ⟨gv, 0, none⟩) l vc
  | 8 => v' = .int .i64 (i : Int)
  | 9 => v' = .pointer (some ⟨gv, i, none⟩)
  | 10 => v' = .int .i64 (y : Int)
  | 11 => v' = .int .i64 ((x : Int) * (n : Int) + (y : Int))
  | 12 => v' = .pointer (some ⟨rB, x * n + y, none⟩)
  | _ => True

def StG (w : World) (rB off : Nat) (listed : Array Bool) (_ : Unit) (wx : World) : Prop := (listed[13]? = some false → wx = w.drew) ∧ (listed[13]? = some true → wx = w.drew.setCell ⟨rB, off, none⟩ (.bool true))

set_option maxRecDepth 100000 in
set_option maxHeartbeats 4000000 in
theorem sto_region {Q : Exit → Act → World → Prop} (rB gu gv l uc vc i x y n : Nat) (f : Act) (w : World) (hx : x < n) (hy : y < n) (hn : n ≤ 80) (hil : i < l)
    (hcu : w.cell? ⟨gu, i, none⟩ = some (.int .i64 (x : Int))) (hcv : w.cell? ⟨gv, i, none⟩ = some (.int .i64 (y : Int))) (hcr : ∃ q, w.cell? ⟨rB, x * n + y, none⟩ = some (.bool q)) (hfr : w.frozen? ⟨rB, x * n + y, none⟩ = false)
    (hsz : f.tmps.size = 218) (hds : f.defers = []) (ht1 : f.tmps[1]?.getD undef = .int .i64 (n : Int)) (ht2 : f.tmps[2]?.getD undef = .slice (some ⟨gu, 0, none⟩) l uc) (ht3 : f.tmps[3]?.getD undef = .slice (some ⟨gv, 0, none⟩) l vc) (ht9 : f.tmps[9]?.getD undef = .slice (some ⟨rB, 0, none⟩) (n * n) (n * n)) (ht10 : f.tmps[10]?.getD undef = .int .i64 (i : Int))
    (hend : ∀ f', f'.tmps.size = 218 → f'.defers = [] → (∀ t, t < 32 → f'.tmps[t]?.getD undef = f.tmps[t]?.getD undef) → Q .normal f' (w.drew.setCell ⟨rB, x * n + y, none⟩ (.bool true))) :
    Code.wp Ybad.prog ((Ybad.f8.body.bind (reg 5)).getD .skip) Q f w := by
  conv => arg 2; whnf
  obtain ⟨q, hcr⟩ := hcr
  obtain ⟨k0, k1, k2, k3⟩ := idx_int hx hy hn
  have k4 : (x : Int) * (n : Int) + (y : Int) < (n : Int) * (n : Int) := by push_cast at k1; exact k1
  have k5 : 0 ≤ (x : Int) * (n : Int) + (y : Int) := by omega
  have k6 : (n : Int) * (n : Int) ≤ 6400 := by have : ((n * n : Nat) : Int) ≤ 6400 := by omega
                                               push_cast at this; exact this
  have hI0 : (0 : Int) ≤ (i : Int) := by omega
  have hI1 : (i : Int) < (l : Int) := by omega
  refine Any.wp_region_ops (Γ := Unit) (N := 218) (by kernel_rfl) (by kernel_rfl) (stVal rB gu gv l uc vc i x y n) (StG w rB (x * n + y)) (fun _ _ _ _ => True) () (fun _ _ _ _ _ _ _ h => h) hsz
    ⟨fun _ => rfl, fun h => (by simp at h)⟩ ?_ ?_
  · intro j o hi listed γ b wx hcl hls hun hpre hR hG
    obtain ⟨g13, g13'⟩ := hG
    have hset : ∀ j' : Nat, j' ≠ j → (listed.setIfInBounds j true)[j']? = listed[j']? := fun j' hj => Array.getElem?_setIfInBounds_ne (Ne.symm hj)
    have keep : j ≠ 13 → StG w rB (x * n + y) (listed.setIfInBounds j true) () wx := fun h => ⟨by rw [hset 13 (Ne.symm h)]; exact g13, by rw [hset 13 (Ne.symm h)]; exact g13'⟩
    match j, hi with
    | 0, hi =>
      simp only [List.getElem?_toArray, List.getElem?_cons_zero, List.getElem?_cons_succ, Option.some.injEq] at hi
      subst hi
      have e9 : b.tmps[9]?.getD undef = .slice (some ⟨rB, 0, none⟩) (n * n) (n * n) := (hR.old (by decide)).trans ht9
      exact wp_of_value (v := .slice (some ⟨rB, 0, none⟩) (n * n) (n * n)) (w' := wx) (by go_simp) ⟨_, (), rfl, keep (by omega), trivial, by simp, rfl⟩
    | 1, hi =>
      simp only [List.getElem?_toArray, List.getElem?_cons_zero, List.getElem?_cons_succ, Option.some.injEq] at hi
      subst hi
      have e2 : b.tmps[2]?.getD undef = .slice (some ⟨gu, 0, none⟩) l uc := (hR.old (by decide)).trans ht2
      exact wp_of_value (v := .slice (some ⟨gu, 0, none⟩) l uc) (w' := wx) (by go_simp) ⟨_, (), rfl, keep (by omega), trivial, by simp, rfl⟩
    | 2, hi =>
      simp only [List.getElem?_toArray, List.getElem?_cons_zero, List.getElem?_cons_succ, Option.some.injEq] at hi
      subst hi
      have e10 : b.tmps[10]?.getD undef = .int .i64 (i : Int) := (hR.old (by decide)).trans ht10
      exact wp_of_value (v := .int .i64 (i : Int)) (w' := wx) (by go_simp) ⟨_, (), rfl, keep (by omega), trivial, by simp, rfl⟩
    | 3, hi =>
      simp only [List.getElem?_toArray, List.getElem?_cons_zero, List.getElem?_cons_succ, Option.some.injEq] at hi
      subst hi
      have e33 : b.tmps[33]?.getD undef = .slice (some ⟨gu, 0, none⟩) l uc := hR.at (j := 1) rfl (hpre ⟨1, .data⟩ (by simp) rfl)
      have e34 : b.tmps[34]?.getD undef = .int .i64 (i : Int) := hR.at (j := 2) rfl (hpre ⟨2, .data⟩ (by simp) rfl)
      exact wp_of_value (v := .pointer (some ⟨gu, i, none⟩)) (w' := wx) (by go_simp) ⟨_, (), rfl, keep (by omega), trivial, by simp, rfl⟩
    | 4, hi =>
      simp only [List.getElem?_toArray, List.getElem?_cons_zero, List.getElem?_cons_succ, Option.some.injEq] at hi
      subst hi
      have e35 : b.tmps[35]?.getD undef = .pointer (some ⟨gu, i, none⟩) := hR.at (j := 3) rfl (hpre ⟨3, .data⟩ (by simp) rfl)
      obtain rfl := g13 (hcl.before hls hun (j := 13) rfl (e := ⟨4, .phase⟩) (by simp) rfl rfl)
      exact wp_of_value (v := .int .i64 (x : Int)) (w' := w.drew) (by go_simp) ⟨_, (), rfl, keep (by omega), trivial, by simp, rfl⟩
    | 5, hi =>
      simp only [List.getElem?_toArray, List.getElem?_cons_zero, List.getElem?_cons_succ, Option.some.injEq] at hi
      subst hi
      have e1 : b.tmps[1]?.getD undef = .int .i64 (n : Int) := (hR.old (by decide)).trans ht1
      exact wp_of_value (v := .int .i64 (n : Int)) (w' := wx) (by go_simp) ⟨_, (), rfl, keep (by omega), trivial, by simp, rfl⟩
    | 6, hi =>
      simp only [List.getElem?_toArray, List.getElem?_cons_zero, List.getElem?_cons_succ, Option.some.injEq] at hi
      subst hi
      have e36 : b.tmps[36]?.getD undef = .int .i64 (x : Int) := hR.at (j := 4) rfl (hpre ⟨4, .data⟩ (by simp) rfl)
      have e37 : b.tmps[37]?.getD undef = .int .i64 (n : Int) := hR.at (j := 5) rfl (hpre ⟨5, .data⟩ (by simp) rfl)
      exact wp_of_value (v := .int .i64 ((x : Int) * (n : Int))) (w' := wx) (by go_simp; exact wrap_i64 _ (by omega) (by omega)) ⟨_, (), rfl, keep (by omega), trivial, by simp, rfl⟩
    | 7, hi =>
      simp only [List.getElem?_toArray, List.getElem?_cons_zero, List.getElem?_cons_succ, Option.some.injEq] at hi
      subst hi
      have e3 : b.tmps[3]?.getD undef = .slice (some ⟨gv, 0, none⟩) l vc := (hR.old (by decide)).trans ht3
      exact wp_of_value (v := .slice (some ⟨gv, 0, none⟩) l vc) (w' := wx) (by go_simp) ⟨_, (), rfl, keep (by omega), trivial, by simp, rfl⟩
    | 8, hi =>
      simp only [List.getElem?_toArray, List.getElem?_cons_zero, List.getElem?_cons_succ, Option.some.injEq] at hi
      subst hi
      have e10 : b.tmps[10]?.getD undef = .int .i64 (i : Int) := (hR.old (by decide)).trans ht10
      exact wp_of_value (v := .int .i64 (i : Int)) (w' := wx) (by go_simp) ⟨_, (), rfl, keep (by omega), trivial, by simp, rfl⟩
    | 9, hi =>
      simp only [List.getElem?_toArray, List.getElem?_cons_zero, List.getElem?_cons_succ, Option.some.injEq] at hi
      subst hi
      have e39 : b.tmps[39]?.getD undef = .slice (some ⟨gv, 0, none⟩) l vc := hR.at (j := 7) rfl (hpre ⟨7, .data⟩ (by simp) rfl)
      have e40 : b.tmps[40]?.getD undef = .int .i64 (i : Int) := hR.at (j := 8) rfl (hpre ⟨8, .data⟩ (by simp) rfl)
      exact wp_of_value (v := .pointer (some ⟨gv, i, none⟩)) (w' := wx) (by go_simp) ⟨_, (), rfl, keep (by omega), trivial, by simp, rfl⟩
    | 10, hi =>
      simp only [List.getElem?_toArray, List.getElem?_cons_zero, List.getElem?_cons_succ, Option.some.injEq] at hi
      subst hi
      have e41 : b.tmps[41]?.getD undef = .pointer (some ⟨gv, i, none⟩) := hR.at (j := 9) rfl (hpre ⟨9, .data⟩ (by simp) rfl)
      obtain rfl := g13 (hcl.before hls hun (j := 13) rfl (e := ⟨10, .phase⟩) (by simp) rfl rfl)
      exact wp_of_value (v := .int .i64 (y : Int)) (w' := w.drew) (by go_simp) ⟨_, (), rfl, keep (by omega), trivial, by simp, rfl⟩
    | 11, hi =>
      simp only [List.getElem?_toArray, List.getElem?_cons_zero, List.getElem?_cons_succ, Option.some.injEq] at hi
      subst hi
      have e38 : b.tmps[38]?.getD undef = .int .i64 ((x : Int) * (n : Int)) := hR.at (j := 6) rfl (hpre ⟨6, .data⟩ (by simp) rfl)
      have e42 : b.tmps[42]?.getD undef = .int .i64 (y : Int) := hR.at (j := 10) rfl (hpre ⟨10, .data⟩ (by simp) rfl)
      exact wp_of_value (v := .int .i64 ((x : Int) * (n : Int) + (y : Int))) (w' := wx) (by go_simp; exact wrap_i64 _ (by omega) (by omega)) ⟨_, (), rfl, keep (by omega), trivial, by simp, rfl⟩
    | 12, hi =>
      simp only [List.getElem?_toArray, List.getElem?_cons_zero, List.getElem?_cons_succ, Option.some.injEq] at hi
      subst hi
      have e32 : b.tmps[32]?.getD undef = .slice (some ⟨rB, 0, none⟩) (n * n) (n * n) := hR.at (j := 0) rfl (hpre ⟨0, .data⟩ (by simp) rfl)
      have e43 : b.tmps[43]?.getD undef = .int .i64 ((x : Int) * (n : Int) + (y : Int)) := hR.at (j := 11) rfl (hpre ⟨11, .data⟩ (by simp) rfl)
      exact wp_of_value (v := .pointer (some ⟨rB, x * n + y, none⟩)) (w' := wx) (by go_simp) ⟨_, (), rfl, keep (by omega), trivial, by simp, rfl⟩
    | 13, hi =>
      simp only [List.getElem?_toArray, List.getElem?_cons_zero, List.getElem?_cons_succ, Option.some.injEq] at hi
      subst hi
      have e44 : b.tmps[44]?.getD undef = .pointer (some ⟨rB, x * n + y, none⟩) := hR.at (j := 12) rfl (hpre ⟨12, .data⟩ (by simp) rfl)
      obtain rfl := g13 hun
      refine wp_of_skip (w' := w.drew.setCell ⟨rB, x * n + y, none⟩ (.bool true)) (by go_simp) ⟨_, (), rfl, ⟨fun h => ?_, fun _ => rfl⟩, trivial, by simp, trivial⟩
      rw [Array.getElem?_setIfInBounds_self_of_lt (by rw [hls]; decide)] at h
      cases h
    | _ + 14, hi => simp at hi
  · intro listed γ b wx hall hR hG
    rw [hG.2 (hall 13 (by decide))]
    exact hend _ hR.size (hR.ds.trans hds) (fun t ht => hR.old (by revert t; decide))

def Z0 (P n : Nat) (ps : List (Nat × Nat)) (vu vv : Value) (rB : Nat) (w0 : World) (m : Nat) (f : Act) (w : World) : Prop :=
  ∃ i, i ≤ ps.length ∧ m = ps.length - i ∧ Fz P n vu vv rB f ∧ f.tmps[10]?.getD undef = .int .i64 (i : Int) ∧ Bm n rB (fun x y => decide ((x, y) ∈ ps.take i)) w ∧ Keeps (fun k => k = rB) w0 w

set_option maxRecDepth 100000 in
set_option maxHeartbeats 4000000 in
theorem check0 {Q : Exit → Act → World → Prop} (P n : Nat) (hn : n ≤ 80) (ps : List (Nat × Nat)) (hps : ps.length ≤ 4096) (hlt : ∀ p ∈ ps, p.1 < n ∧ p.2 < n) (vu vv : Value) (rB : Nat) (w0 : World) (hRd : Rd ps vu vv w0) (hu : vu.ownBlock ≠ some rB) (hv : vv.ownBlock ≠ some rB) (f : Act) (w : World)
    (hF : Fz P n vu vv rB f) (h10 : f.tmps[10]?.getD undef = .int .i64 0) (hB : Bm n rB (fun _ _ => false) w) (hK : Keeps (fun k => k = rB) w0 w)
    (hnext : ∀ f' w', Fz P n vu vv rB f' → Bm n rB (fun x y => decide ((x, y) ∈ ps)) w' → Keeps (fun k => k = rB) w0 w' → Q (.exit 0) f' w') :
    Code.wp Ybad.prog ((Ybad.f8.body.bind (blk 0)).getD .skip) Q f w := by
  conv => arg 2; whnf
  refine wp_loop_ghost (Z0 P n ps vu vv rB w0) ps.length ⟨0, Nat.zero_le _, rfl, hF, h10, by simpa using hB, hK⟩ ?_
  clear hF h10 hB hK f w
  rintro m f w ⟨i, hi, rfl, ⟨hsz, hds, e0, e1, e2, e3, e9⟩, e10, hB, hK⟩
  obtain ⟨g, hg⟩ : ∃ g : Nat → Value, ∀ t, f.tmps[t]?.getD undef = g t := ⟨_, fun _ => rfl⟩
  obtain ⟨ua, uc, huv, hucell⟩ := int_shape hRd.1 (by simp)
  obtain ⟨va, vc, hvv, hvcell⟩ := int_shape hRd.2 (by simp)
  rw [hg] at e0 e1 e2 e3 e9 e10
  rw [huv] at e2
  rw [hvv] at e3
  rw [lit218 f g hg hsz hds, e0, e1, e2, e3, e9, e10]
  clear hg hsz hds e0 e1 e2 e3 e9 e10
  by_cases hl : i < ps.length
  · obtain ⟨⟨x, y⟩, hp⟩ : ∃ p, ps[i]? = some p := ⟨_, List.getElem?_eq_getElem hl⟩
    obtain ⟨gu, rfl, hob, hcu⟩ := hucell i x (by simp [hp])
    obtain ⟨gv, rfl, hob2, hcv⟩ := hvcell i y (by simp [hp])
    have hx : x < n := (hlt _ (List.mem_of_getElem? hp)).1
    have hy : y < n := (hlt _ (List.mem_of_getElem? hp)).2
    have hcu' : w.cell? ⟨gu, i, none⟩ = some (.int .i64 (x : Int)) := by
      rw [World.cell?_of_block (hK.block gu (ownsRow_lt hRd.1 gu hob) (fun e => hu (by rw [hob, e])))]; exact hcu
    have hcv' : w.cell? ⟨gv, i, none⟩ = some (.int .i64 (y : Int)) := by
      rw [World.cell?_of_block (hK.block gv (ownsRow_lt hRd.2 gv hob2) (fun e => hv (by rw [hob2, e])))]; exact hcv
    have hI0 : (0 : Int) ≤ (i : Int) := by omega
    have hI1 : (i : Int) < (ps.length : Int) := by omega
    have hcc := hB.cell hx hy
    have hfz := World.rowIs.frozen hB (x * n + y)
    have h0 : Bm n rB (fun x y => decide ((x, y) ∈ ps.take (i + 1))) (w.drew.setCell ⟨rB, x * n + y, none⟩ (.bool true)) := (Bm.set (w := w.drew) (x := x) (q := fun x y => decide ((x, y) ∈ ps.take i)) hB hy).congr fun a b ha hb => by
      have e : ((a, b) ∈ ps.take (i + 1)) ↔ ((a = x ∧ b = y) ∨ (a, b) ∈ ps.take i) := by
        rw [List.take_add_one, hp]; simp [or_comm]
      by_cases e2 : a = x ∧ b = y
      · rw [if_pos e2]; exact (decide_eq_true (e.2 (Or.inl e2))).symm
      · rw [if_neg e2]; simp only [e, e2, false_or]
    have HB : Hid (_) := h0
    have HK : Hid (Keeps (fun k => k = rB) w0 (w.drew.setCell ⟨rB, x * n + y, none⟩ (.bool true))) := hK.drew.setCell (fun _ => rfl) _
    have HC : Hid (∃ q, w.cell? ⟨rB, x * n + y, none⟩ = some (.bool q)) := ⟨_, hcc⟩
    clear h0 hB hK hRd hucell hvcell hcu hcv hcc
    go_wp2_with fail
    rename_i K hKont
    refine sto_region rB gu gv ps.length uc vc i x y n _ _ hx hy hn hl hcu' hcv' HC.out hfz rfl rfl rfl rfl rfl rfl rfl ?_
    intro f' hsz hds hold
    have e0 : f'.tmps[0]?.getD undef = .pointer (some ⟨P, 0, none⟩) := hold 0 (by omega)
    have e1 : f'.tmps[1]?.getD undef = .int .i64 (n : Int) := hold 1 (by omega)
    have e2 : f'.tmps[2]?.getD undef = .slice (some ⟨gu, 0, none⟩) ps.length uc := hold 2 (by omega)
    have e3 : f'.tmps[3]?.getD undef = .slice (some ⟨gv, 0, none⟩) ps.length vc := hold 3 (by omega)
    have e9 : f'.tmps[9]?.getD undef = .slice (some ⟨rB, 0, none⟩) (n * n) (n * n) := hold 9 (by omega)
    have e10 : f'.tmps[10]?.getD undef = .int .i64 (i : Int) := hold 10 (by omega)
    clear hold
    obtain ⟨g', hg'⟩ : ∃ g : Nat → Value, ∀ t, f'.tmps[t]?.getD undef = g t := ⟨_, fun _ => rfl⟩
    rw [hg'] at e0 e1 e2 e3 e9 e10
    rw [lit218 f' g' hg' hsz hds, e0, e1, e2, e3, e9, e10]
    clear hg' hsz hds e0 e1 e2 e3 e9 e10 hcu' hcv' hfz
    refine hKont _ _ ?_
    clear hKont
    go_wp2_with fail
    exact ⟨ps.length - (i + 1), by omega, i + 1, by omega, rfl, ⟨rfl, rfl, rfl, rfl, huv.symm, hvv.symm, rfl⟩, by first | rfl | go_num, HB.out, HK.out⟩
  · obtain rfl : i = ps.length := by omega
    have hI1 : ¬ (ps.length : Int) < (ps.length : Int) := by omega
    rw [List.take_length] at hB
    have HB : Hid (_) := hB
    have HK : Hid (_) := hK
    clear hB hK hRd
    go_wp2_with fail
    exact hnext _ _ ⟨rfl, rfl, rfl, rfl, huv.symm, hvv.symm, rfl⟩ HB.out HK.out
end Go.Proofs.YbulkbnbgDoor.Pr
