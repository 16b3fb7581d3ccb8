/-
  The law (function 3), its end: the chosen set is weighed.
-/
import Derived.Test.YbulkbnbuT0
namespace Go.Proofs.Ybulkbnbu.Kn
set_option linter.unusedSimpArgs false
set_option linter.unusedVariables false
open Go.ChangeShapes Go.WideShapes Go.ChangeAt Go.RowKit
open Go.Proofs.Ybulkbnbu.Fl Go.Proofs.Ybulkbnbu.Pl Go.Sort
attribute [local go_sem] run_store_float

set_option maxRecDepth 100000 in
theorem lit132 (b : Act) (g : Nat → Value) (hg : ∀ t, b.tmps[t]?.getD undef = g t) (hN : b.tmps.size = 132) (hd : b.defers = []) : b = { tmps := (g 0 :: g 1 :: g 2 :: g 3 :: g 4 :: g 5 :: g 6 :: g 7 :: g 8 :: g 9 :: g 10 :: g 11 :: g 12 :: g 13 :: g 14 :: g 15 :: g 16 :: g 17 :: g 18 :: g 19 :: g 20 :: g 21 :: g 22 :: g 23 :: g 24 :: g 25 :: g 26 :: g 27 :: g 28 :: g 29 :: g 30 :: g 31 :: g 32 :: g 33 :: g 34 :: g 35 :: g 36 :: g 37 :: g 38 :: g 39 :: g 40 :: g 41 :: g 42 :: g 43 :: g 44 :: g 45 :: g 46 :: g 47 :: g 48 :: g 49 :: g 50 :: g 51 :: g 52 :: g 53 :: g 54 :: g 55 :: g 56 :: g 57 :: g 58 :: g 59 :: g 60 :: g 61 :: g 62 :: g 63 :: g 64 :: g 65 :: g 66 :: g 67 :: g 68 :: g 69 :: g 70 :: g 71 :: g 72 :: g 73 :: g 74 :: g 75 :: g 76 :: g 77 :: g 78 :: g 79 :: g 80 :: g 81 :: g 82 :: g 83 :: g 84 :: g 85 :: g 86 :: g 87 :: g 88 :: g 89 :: g 90 :: g 91 :: g 92 :: g 93 :: g 94 :: g 95 :: g 96 :: g 97 :: g 98 :: g 99 :: g 100 :: g 101 :: g 102 :: g 103 :: g 104 :: g 105 :: g 106 :: g 107 :: g 108 :: g 109 :: g 110 :: g 111 :: g 112 :: g 113 :: g 114 :: g 115 :: g 116 :: g 117 :: g 118 :: g 119 :: g 120 :: g 121 :: g 122 :: g 123 :: g 124 :: g 125 :: g 126 :: g 127 :: g 128 :: g 129 :: g 130 :: g 131 :: []).toArray, defers := [] } := by
  obtain ⟨tm, df⟩ := b
  obtain rfl : df = [] := hd
  obtain rfl : (fun t => tm[t]?.getD undef) = g := funext hg
  exact congrArg (fun x => Act.mk x []) (tmps_eq hN)

theorem sorted_len (C : List Nat) (n : Nat) : ∀ lo, C.Pairwise (· < ·) → (∀ x ∈ C, lo ≤ x ∧ x < n) → C.length ≤ n - lo := by
  induction C with
  | nil => intro lo _ _; simp
  | cons a l ih =>
    intro lo hs hb
    obtain ⟨h1, h2⟩ := List.pairwise_cons.1 hs
    have ha := hb a (by simp)
    have := ih (a + 1) h2 (fun x hx => ⟨h1 x hx, (hb x (List.mem_cons_of_mem _ hx)).2⟩)
    simp only [List.length_cons]
    omega
def tks (f : Nat → Nat) (C : List Nat) (k : Nat) : Nat := ((C.take k).map f).sum
theorem tks_succ (f : Nat → Nat) (C : List Nat) (k y : Nat) (h : C[k]? = some y) : tks f C (k + 1) = tks f C k + f y := by
  unfold tks
  rw [List.take_add_one, h]
  simp
theorem tks_bd (f : Nat → Nat) (C : List Nat) (B : Nat) (h : ∀ i, f i ≤ B) (k : Nat) : tks f C k ≤ B * k := by
  induction k with
  | zero => simp [tks]
  | succ k ih =>
    cases hk : C[k]? with
    | none =>
      have e : tks f C (k + 1) = tks f C k := by unfold tks; rw [List.take_add_one, hk]; simp
      rw [e, Nat.mul_add]; omega
    | some y => rw [tks_succ f C k y hk, Nat.mul_add]; have := h y; omega

set_option maxRecDepth 100000 in
set_option maxHeartbeats 8000000 in
theorem l3 {Rr : Ending → World → Prop} (go n co cap got cc : Nat) (p : Option Addr) (C : List Nat) (s v : Nat → Nat) (f : Act) (w : World) (hL : Lst w 0 p C) (hI : Itm w go n s v) (hB : BestOk s v n cap got C) (hn : n ≤ 12) (hs : ∀ i, 1 ≤ s i ∧ s i ≤ 7) (hv : ∀ i, v i ≤ 9) (hcap : cap ≤ 47)
    (hsz : f.tmps.size = 132) (hds : f.defers = []) (e7 : f.tmps[7]?.getD undef = .int .i64 (n : Int)) (e9 : f.tmps[9]?.getD undef = .slice (some ⟨go, 0, none⟩) n co) (e10 : f.tmps[10]?.getD undef = .int .i64 (cap : Int)) (e11 : f.tmps[11]?.getD undef = .float .f64 (W got)) (e12 : f.tmps[12]?.getD undef = .slice p C.length cc) (e13 : f.tmps[13]?.getD undef = .float .f64 (W got))
    (hR : Rr (.returned (.bool true)) w) :
    Code.wp Yba.prog ((Yba.f3.body.bind (at_ 25)).getD .skip) (bodyPost Yba.prog Yba.f3 Rr) f w := by
  conv => arg 2; whnf
  obtain ⟨g, hg⟩ : ∃ g : Nat → Value, ∀ t, f.tmps[t]?.getD undef = g t := ⟨_, fun _ => rfl⟩
  rw [hg] at e7 e9 e10 e11 e12 e13
  rw [lit132 f g hg hsz hds, e7, e9, e10, e11, e12, e13]
  clear hg hsz hds e7 e9 e10 e11 e12 e13

  have hCl : C.length ≤ 12 := by
    have h1 := sorted_len C n 0 hB.sorted (fun x hx => ⟨Nat.zero_le _, hB.lt x hx⟩)
    omega
  have hgb : got < 1000 := by
    have h1 := tks_bd v C 9 hv C.length
    have h2 : tks v C C.length = got := by unfold tks; rw [List.take_length]; exact hB.vl
    omega
  have ho0 := ord_eq got (by omega)
  have HR : Hid (_) := hR
  have H0 : Hid (_) := And.intro hL (And.intro hI (And.intro hB (And.intro hs hv)))
  clear hR hL hI hB hs hv
  obtain ⟨sg, hsg⟩ : ∃ g : Nat → Nat, g = tks s C := ⟨_, rfl⟩
  obtain ⟨vg, hvg⟩ : ∃ g : Nat → Nat, g = tks v C := ⟨_, rfl⟩
  have HG : Hid (_) := And.intro hsg hvg
  clear hsg hvg
  go_wp2_with fail
  go_loopw [18, 19, 20, 22, 96] (fun pv sv tv _ iv wr => ∃ (k : Nat) (pr : Int), k ≤ C.length ∧ iv = .int .i64 (k : Int) ∧ pv = .int .i64 pr ∧ (-1 ≤ pr ∧ pr < 100) ∧ (∀ (j y : Nat), C[j]? = some y → k ≤ j → pr < (y : Int)) ∧ sv = .int .i64 ((sg k : Nat) : Int) ∧ tv = .float .f64 (W (vg k)) ∧ wr = w) (fun _ _ _ _ iv _ => C.length - (intOf iv).toNat)
  case atStart => exact ⟨0, -1, Nat.zero_le _, rfl, rfl, ⟨by omega, by omega⟩, fun j y _ _ => by omega, by rw [HG.out.1]; rfl, by rw [HG.out.2]; rfl, rfl⟩
  case round =>
    obtain ⟨k, pr, hk, rfl, rfl, hpr, hpc, rfl, rfl, rfl⟩ := hrel
    obtain ⟨hL, hI, hB, hs, hv⟩ := H0.out
    have hsb := tks_bd s C 7 (fun i => (hs i).2) k
    have hvb := tks_bd v C 9 hv k
    rw [← HG.out.1] at hsb
    rw [← HG.out.2] at hvb
    by_cases hlt : k < C.length
    · obtain ⟨g, rfl, _, hgl, hgc⟩ := hL (by intro e; rw [e] at hlt; simp at hlt)
      obtain ⟨y, hy⟩ : ∃ y, C[k]? = some y := ⟨C[k], by simp [hlt]⟩
      have cK := hgc k y hy
      have hyn := hB.lt y (List.mem_of_getElem? hy)
      have cI := (hI y hyn).1
      have cV := (hI y hyn).2
      have hsy := hs y
      have hvy := hv y
      have b0 := hpc k y hy (Nat.le_refl _)
      have b1 : (k : Int) < (C.length : Int) := by omega
      have b2 : (0 : Int) ≤ (k : Int) := by omega
      have b3 : ¬ (y : Int) ≤ pr := by omega
      have b4 : ¬ (n : Int) ≤ (y : Int) := by omega
      have b5 : (y : Int) < (n : Int) := by omega
      have b6 : (0 : Int) ≤ (y : Int) := by omega
      have hadd := fun w => addF w (vg k) (v y) (by omega)
      have hnxs : sg (k + 1) = sg k + s y := by rw [HG.out.1]; exact tks_succ s C k y hy
      have hnxv : vg (k + 1) = vg k + v y := by rw [HG.out.2]; exact tks_succ v C k y hy
      have hpc2 : ∀ (j z : Nat), C[j]? = some z → k + 1 ≤ j → (y : Int) < (z : Int) := fun j z hz hj => by
        obtain ⟨hl1, he1⟩ := List.getElem?_eq_some_iff.1 hy
        obtain ⟨hl2, he2⟩ := List.getElem?_eq_some_iff.1 hz
        have := List.pairwise_iff_getElem.1 hB.sorted k j hl1 hl2 (by omega)
        rw [he1, he2] at this
        omega
      have HN : Hid (_) := And.intro hnxs (And.intro hnxv hpc2)
      clear hnxs hnxv hpc2 hpc hL hI hB hs hv hgc hy
      generalize s y = sy at *
      generalize v y = vy at *
      generalize sg k = sk at *
      generalize vg k = vk at *
      go_wp2_with fail
      go_roundw
      case rel => exact ⟨k + 1, (y : Int), by omega, by go_num, rfl, ⟨by omega, by omega⟩, HN.out.2.2, by rw [HN.out.1]; go_num, by rw [HN.out.2.1], by first | rfl | trivial⟩
      case measure => simp [intOf]; omega
    · obtain rfl : k = C.length := by omega
      have b1 : ¬ (C.length : Int) < (C.length : Int) := by omega
      have e1 : sg C.length ≤ cap := by rw [HG.out.1]; unfold tks; rw [List.take_length]; exact hB.sz
      have e2 : vg C.length = got := by rw [HG.out.2]; unfold tks; rw [List.take_length]; exact hB.vl
      rw [e2] at hvb ⊢
      have ho := ord_eq got (by omega)
      have b2 : ((sg C.length : Nat) : Int) ≤ (cap : Int) := by omega
      clear hpc hL hI hB hs hv e2
      generalize sg C.length = sk at *
      go_wp2_with fail
      exact HR.out
end Go.Proofs.Ybulkbnbu.Kn
