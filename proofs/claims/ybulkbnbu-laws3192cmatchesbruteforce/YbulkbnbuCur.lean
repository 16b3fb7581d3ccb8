/-
  The curve's other functions: newCurve, due, takes, top (functions 11, 13, 20, 22).
-/
import Derived.Test.YbulkbnbuAddT
import Derived.Test.YbulkbnbuGcd
namespace Go.Proofs.Ybulkbnbu.Kn
set_option linter.unusedSimpArgs false
set_option linter.unusedVariables false
open Go.ChangeShapes Go.WideShapes Go.ChangeAt Go.RowKit
open Go.Proofs.Ybulkbnbu.Fl Go.Proofs.Ybulkbnbu.Pl
attribute [local go_sem] run_store_float

def CV (B cb room left m : Nat) (sf vf : Nat → Nat) (w : World) : Prop := (∃ d, CS B cb room left m sf vf d w) ∨ ∃ d, CT B cb room left m sf vf d w
theorem CV.keep {B cb room left m : Nat} {sf vf : Nat → Nat} {w w' : World} (h : CV B cb room left m sf vf w) (hk : Keeps (fun k => k < B) w w') : CV B cb room left m sf vf w' := by
  have hown : ∀ {e n : Nat} {v : Value} {ys : List Value}, w.ownsRow B e 1 v n ys → w'.ownsRow B e 1 v n ys := fun h => ownsRow_of_block h (fun g hg => hk.block g (ownsRow_lt h g hg) (by have := (ownsRow_tag h g hg).1; omega))
  have hs := hk.size
  rcases h with ⟨d, h⟩ | ⟨d, h⟩
  · exact Or.inl ⟨d, h.row.of_block (hk.block cb h.row.lt (by have := h.hcb; omega)), hown h.oX, hown h.oU, hown h.oS, hown h.oV, hown h.oW, hown h.oF, h.rep, h.md, h.tk, h.d1, h.d2, h.d3, h.d4, h.d5, h.d6, h.d7, h.hcb, by have := h.hB; omega⟩
  · exact Or.inr ⟨d, h.row.of_block (hk.block cb h.row.lt (by have := h.hcb; omega)), hown h.oW, hown h.oF, h.tb.of_block (hk.block _ h.tb.lt (by have := h.hgt; omega)), h.tn.of_block (hk.block _ h.tn.lt (by have := h.hgk; omega)), h.tk, h.bits, h.zero, h.lim, h.ck, h.le, h.hcb, h.hgt, h.hgk, by have := h.hB; omega⟩

theorem add_any (B cb room left m s v : Nat) (sf vf : Nat → Nat) (w : World) (hC : CV B cb room (left + 1) m sf vf w) (hroom : room ≤ 47) (hleft : left < 500) (hm : m < 100) (hsf : sf m = s) (hvf : vf m = v) (hs : 1 ≤ s) (hs7 : s ≤ 7) (hv9 : ∀ i, vf i ≤ 9) :
    Calls Yba.prog 12 #[.pointer (some ⟨cb, 0, none⟩), .agg #[.int .i64 (s : Int), .float .f64 (W v)]] w fun e w' => e = .returned (.tuple #[]) ∧ CV B cb room left (m + 1) sf vf w' ∧ Keeps (fun k => B ≤ k) w w' := by
  rcases hC with ⟨d, h⟩ | ⟨d, h⟩
  · by_cases hl : d.xs.length ≤ room / 16
    · refine (add_stair B cb room left m s v sf vf d w h hl hroom (by omega) hm hsf hvf hs hs7 (by have := hv9 m; omega)).mono ?_
      rintro e w' ⟨h1, h2, h3⟩
      exact ⟨h1, Or.inl h2, h3⟩
    · refine (add_first B cb room left m s v sf vf d w h (by omega) hroom (by omega) hm hsf hvf hs hs7 hv9).mono ?_
      rintro e w' ⟨h1, h2, h3⟩
      exact ⟨h1, Or.inr h2, h3⟩
  · refine (add_table B cb room left m s v sf vf d w h hroom (by omega) hm hsf hvf hs hs7 hv9).mono ?_
    rintro e w' ⟨h1, h2, h3⟩
    exact ⟨h1, Or.inr h2, h3⟩

def Newed (room n : Nat) (sf vf : Nat → Nat) (w : World) (e : Ending) (w' : World) : Prop := ∃ cb, e = .returned (.pointer (some ⟨cb, 0, none⟩)) ∧ CV w.heap.size cb room n 0 sf vf w' ∧ Keeps (fun _ => False) w w'
set_option maxRecDepth 100000 in
set_option maxHeartbeats 4000000 in
theorem new_any (room n : Nat) (sf vf : Nat → Nat) (w : World) :
    Calls Yba.prog 11 #[.int .i64 (room : Int), .int .i64 (n : Int)] w (Newed room n sf vf w) := by
  go_enter Yba.func11, Yba.ntmps11
  go_wp2
  go_ret
  have o1 : (w.alloc (.cells #[.int .i64 0] 3)).ownsRow w.heap.size 3 1 (.slice (some ⟨w.heap.size, 0, none⟩) 1 1) 1 (ints [0]) := World.ownsRow_lit w #[.int .i64 0] 1 (Nat.le_refl _) (by unfold maxLen; omega) rfl
  have o2 : ((w.alloc (.cells #[.int .i64 0] 3)).alloc (.cells #[.float .f64 0] 26)).ownsRow w.heap.size 26 1 (.slice (some ⟨w.heap.size + 1, 0, none⟩) 1 1) 1 (flts [0]) := by
    have := World.ownsRow_lit (base := w.heap.size) (e := 26) (size := 1) (w.alloc (.cells #[.int .i64 0] 3)) #[.float .f64 0] 1 (by simp) (by unfold maxLen; omega) rfl
    rw [World.size_alloc] at this
    exact this
  have o3 : (((w.alloc (.cells #[.int .i64 0] 3)).alloc (.cells #[.float .f64 0] 26)).alloc (.cells #[.int .i64 0] 3)).ownsRow w.heap.size 3 1 (.slice (some ⟨w.heap.size + 1 + 1, 0, none⟩) 1 1) 1 (ints [0]) := by
    have := World.ownsRow_lit (base := w.heap.size) (e := 3) (size := 1) ((w.alloc (.cells #[.int .i64 0] 3)).alloc (.cells #[.float .f64 0] 26)) #[.int .i64 0] 1 (by simp; omega) (by unfold maxLen; omega) rfl
    rw [World.size_alloc, World.size_alloc] at this
    exact this
  have hr := World.rowIs_alloc (((w.alloc (.cells #[.int .i64 0] 3)).alloc (.cells #[.float .f64 0] 26)).alloc (.cells #[.int .i64 0] 3)) #[.int .i64 (room : Int), .int .i64 (n : Int), .slice (some ⟨w.heap.size, 0, none⟩) 1 1, .slice (some ⟨w.heap.size + 1, 0, none⟩) 1 1, .slice none 0 0, .slice none 0 0, .slice none 0 0, .slice (some ⟨w.heap.size + 1 + 1, 0, none⟩) 1 1, .int .i64 16, .slice none 0 0, .slice none 0 0] 59 (cvF room n (.slice (some ⟨w.heap.size, 0, none⟩) 1 1) (.slice (some ⟨w.heap.size + 1, 0, none⟩) 1 1) (.slice none 0 0) (.slice none 0 0) (.slice none 0 0) (.slice (some ⟨w.heap.size + 1 + 1, 0, none⟩) 1 1) (.slice none 0 0) (.slice none 0 0)) (fun i hi => by
    rcases eleven (show i < 11 from hi) with rfl | rfl | rfl | rfl | rfl | rfl | rfl | rfl | rfl | rfl | rfl <;> rfl)
  simp only [World.size_alloc] at hr
  refine ⟨_, rfl, Or.inl ⟨⟨w.heap.size, w.heap.size + 1, 1, 1, 0, 0, 0, 0, 0, w.heap.size + 1 + 1, 1, none, none, none, [], [], [0], [0], [], [0]⟩, hr, ((o1.alloc _).alloc _).alloc _, (o2.alloc _).alloc _, World.ownsRow_nil _ _ _ _, World.ownsRow_nil _ _ _ _, World.ownsRow_nil _ _ _ _, o3.alloc _, rep1 (fun c _ => by simp [F]), Or.inl ⟨rfl, rfl⟩, Tk.zero _ _ _, by simp, by simp, by simp, by simp, ?_, by simp, by simp, by omega, by simp; omega⟩, (((Keeps.refl _ w).alloc _).alloc _).alloc _ |>.alloc _⟩
  show w.heap.size + 1 + 1 ≠ w.heap.size
  omega

set_option maxRecDepth 100000 in
set_option maxHeartbeats 4000000 in
theorem due_any (B cb room left m : Nat) (sf vf : Nat → Nat) (w : World) (hC : CV B cb room left m sf vf w) :
    Calls Yba.prog 13 #[.pointer (some ⟨cb, 0, none⟩)] w fun e w' => e = .returned (.bool false) ∧ Keeps (fun _ => False) w w' := by
  have q54 : ∀ (w : World) (a : Option Addr) (n c n' c' : Nat), (binOp .eql 54 (.slice a n c) (.slice none n' c')).run Yba.prog w = .ok (.bool a.isNone) w := fun w a n c n' c' => Lib.run_eql_slice_nil w _ _ a n c n' c' Yba.underlying54
  rcases hC with ⟨d, h⟩ | ⟨d, h⟩
  · have k2 := h.row.cell (i := 2) (by omega)
    have k8 := h.row.cell (i := 8) (by omega)
    have k9 := h.row.cell (i := 9) (by omega)
    simp only [cvF] at k2 k8 k9
    have hL : d.xs.length ≤ 4 := by
      rcases h.md with ⟨h, _⟩ | ⟨a, u, h, _⟩ | ⟨_, h, _⟩
      · rw [h]; simp
      · rw [h]; simp
      · omega
    have h1 : ¬ (16 : Int) ≤ (d.xs.length : Int) := by omega
    clear h hL
    go_enter Yba.func13, Yba.ntmps13
    go_wp2_with fail
    go_quiet (fail)
    rename_i K1 hK1
    refine hK1 _ _ ?_
    go_wp2_with fail
    go_ret
    exact ⟨by simp; omega, (Keeps.refl _ _).drewN _⟩
  · have k9 := h.row.cell (i := 9) (by omega)
    simp only [cvF] at k9
    clear h
    go_enter Yba.func13, Yba.ntmps13
    go_wp2_with fail
    go_quiet (fail)
    rename_i K1 hK1
    refine hK1 _ _ ?_
    go_wp2_with fail
    go_ret
    exact ⟨rfl, (Keeps.refl _ _).drewN _⟩

set_option maxRecDepth 100000 in
set_option maxHeartbeats 4000000 in
theorem top_any (B cb room left m : Nat) (sf vf : Nat → Nat) (w : World) (hC : CV B cb room left m sf vf w) (hroom : room ≤ 47) :
    Calls Yba.prog 22 #[.pointer (some ⟨cb, 0, none⟩)] w fun e w' => e = .returned (.float .f64 (W (F sf vf m room))) ∧ Keeps (fun _ => False) w w' := by
  have q54 : ∀ (w : World) (a : Option Addr) (n c n' c' : Nat), (binOp .neq 54 (.slice a n c) (.slice none n' c')).run Yba.prog w = .ok (.bool (!a.isNone)) w := fun w a n c n' c' => run_neq_slice_nil_any w _ _ a n c n' c' Yba.underlying54
  rcases hC with ⟨d, h⟩ | ⟨d, h⟩
  · have k3 := h.row.cell (i := 3) (by omega)
    have k9 := h.row.cell (i := 9) (by omega)
    simp only [cvF] at k3 k9
    have hp := h.rep.pos
    have hv := h.rep.val room (d.xs.length - 1) (Nat.le_refl _) (by omega) (h.rep.le _ (by rw [List.getD_eq_getElem?_getD, List.getElem?_eq_getElem (by omega)]; simp)) (fun h => absurd h (by omega))
    have cu := own_flts h.oU (d.xs.length - 1) (d.us.getD (d.xs.length - 1) 0) (by have := h.rep.len; rw [List.getD_eq_getElem?_getD, List.getElem?_eq_getElem (by omega)]; rfl)
    rw [← hv] at cu
    have hL : d.xs.length ≤ 4 := by
      rcases h.md with ⟨h, _⟩ | ⟨a, u, h, _⟩ | ⟨_, h, _⟩
      · rw [h]; simp
      · rw [h]; simp
      · omega
    have h1 : (0 : Int) ≤ (d.xs.length : Int) - 1 := by omega
    have h2 : (d.xs.length : Int) - 1 < (d.xs.length : Int) := by omega
    have h3 : ((d.xs.length : Int) - 1).toNat = d.xs.length - 1 := by omega
    clear h hv
    generalize F sf vf m room = r at *
    generalize d.xs.length = L at *
    go_enter Yba.func22, Yba.ntmps22
    go_wp2_with fail
    go_quiet (fail)
    rename_i K1 hK1
    refine hK1 _ _ ?_
    go_wp2_with fail
    go_ret
    exact ⟨rfl, (Keeps.refl _ _).drewN _⟩
  · have k0 := h.row.cell (i := 0) (by omega)
    have k9 := h.row.cell (i := 9) (by omega)
    simp only [cvF] at k0 k9
    have ct := h.tb.cell (i := room) (by omega)
    clear h
    generalize F sf vf m room = r at *
    have h1 : (room : Int) < (room : Int) + 1 := by omega
    have h2 : (0 : Int) ≤ (room : Int) := by omega
    go_enter Yba.func22, Yba.ntmps22
    go_wp2_with fail
    go_quiet (fail)
    rename_i K1 hK1
    refine hK1 _ _ ?_
    go_wp2_with fail
    go_ret
    exact ⟨rfl, (Keeps.refl _ _).drewN _⟩

theorem count_le (seg : List Nat) (hs : seg.Pairwise (· < ·)) (c : Nat) : seg.countP (fun y => decide (y ≤ c)) = seg.countP (fun y => decide (y < c)) + if c ∈ seg then 1 else 0 := by
  induction seg with
  | nil => rfl
  | cons a l ih =>
    obtain ⟨h1, h2⟩ := List.pairwise_cons.1 hs
    rw [List.countP_cons, List.countP_cons, ih h2]
    rcases Nat.lt_trichotomy a c with h | h | h
    · have e1 : ¬ c = a := by omega
      simp [h, Nat.le_of_lt h, e1]; omega
    · subst h
      have e1 : a ∉ l := fun hm => absurd (h1 a hm) (by omega)
      simp [e1]
    · have e1 : c ∉ l := fun hm => absurd (h1 c hm) (by omega)
      have e2 : ¬ c = a := by omega
      have e3 : ¬ a ≤ c := by omega
      have e4 : ¬ a < c := by omega
      simp [e1, e2, e3, e4]

theorem par (r : Nat) : (((r : Nat) : Int) % 2 == 1) = decide (r % 2 = 1) := by
  by_cases h : r % 2 = 1
  · rw [decide_eq_true h]; simp; omega
  · rw [decide_eq_false h]; simp; omega
theorem and_pow (x c : Nat) : (((x &&& 2 ^ c : Nat) : Int) != 0) = x.testBit c := by
  cases hb : x.testBit c with
  | true =>
    have h1 : (x &&& 2 ^ c).testBit c = true := by rw [Nat.testBit_and, hb, Nat.testBit_two_pow_self]; rfl
    have h2 : x &&& 2 ^ c ≠ 0 := fun e => by rw [e] at h1; simp at h1
    simp; omega
  | false =>
    have h2 : x &&& 2 ^ c = 0 := Nat.eq_of_testBit_eq fun i => by
      rw [Nat.testBit_and, Nat.testBit_two_pow]
      by_cases e : c = i
      · subst e; rw [hb]; simp
      · simp [e]
    rw [h2]; rfl
/-- The way of the switches. -/
theorem takes_sw (cb gf m0 cF cW k c room : Nat) (aW : Option Addr) (B : Nat) (sw fr : List Nat) (sf vf : Nat → Nat) (x y s v t kk : Value) (left : Nat) (w : World) (hr : w.rowIs cb 59 11 (cvF room left x y s v (.slice aW sw.length cW) (.slice (some ⟨gf, 0, none⟩) (m0 + 1) cF) t kk)) (oW : w.ownsRow B 3 1 (.slice aW sw.length cW) sw.length (ints sw)) (oF : w.ownsRow B 3 1 (.slice (some ⟨gf, 0, none⟩) (m0 + 1) cF) (m0 + 1) (ints fr)) (hT : Tk sw fr room m0 sf vf) (hk : k < m0) (hc : c ≤ room) (hroom : room ≤ 47) (hm : m0 ≤ 100) :
    Calls Yba.prog 20 #[.pointer (some ⟨cb, 0, none⟩), .int .i64 (k : Int), .int .i64 (c : Int)] w fun e w' => e = .returned (.bool (T sf vf k c)) ∧ Keeps (fun _ => False) w w' := by
  obtain ⟨h1, h2, hSw⟩ := hT.seg k hk
  have hlen := hT.len
  have hlim := hT.lim
  have k6 := hr.cell (i := 6) (by omega)
  have k7 := hr.cell (i := 7) (by omega)
  simp only [cvF] at k6 k7
  have c0 := own_ints oF k (fr.getD k 0) (by rw [List.getD_eq_getElem?_getD, List.getElem?_eq_getElem (by omega)]; rfl)
  have c1 := own_ints oF (k + 1) (fr.getD (k + 1) 0) (by rw [List.getD_eq_getElem?_getD, List.getElem?_eq_getElem (by omega)]; rfl)
  generalize fr.getD k 0 = p at *
  generalize fr.getD (k + 1) 0 = q at *
  have b1 : ¬ (m0 : Int) ≤ (k : Int) := by omega
  have b2 : (0 : Int) ≤ (k : Int) := by omega
  have b3 : (k : Int) < (m0 : Int) + 1 := by omega
  have b4 : (k : Int) + 1 < (m0 : Int) + 1 := by omega
  have b5 : (0 : Int) ≤ (k : Int) + 1 := by omega
  have b6 : ((k : Int) + 1).toNat = k + 1 := by omega
  have b7 : (p : Int) ≤ (q : Int) := by omega
  have b8 : (0 : Int) ≤ (p : Int) := by omega
  have b9 : (0 : Int) ≤ (q : Int) := by omega
  have e0 : ((q : Int) - (p : Int)).toNat = q - p := by omega
  by_cases hpq : p = q
  · subst hpq
    have hTf : T sf vf k c = false := by
      rw [hSw.2 c hc]
      simp
    rw [hTf]
    have hE := fun (a : Option Addr) (cap : Nat) (n : Nat) => Yba.slices_BinarySearch_int_empty a cap (c : Int) (w.drewN n)
    rcases oW.2 with ⟨hv, h0⟩ | ⟨g, cap, cur, hv, hg, hh, hn, hcm, hs, ht⟩
    · simp only [Value.slice.injEq] at hv
      obtain ⟨rfl, hl0, rfl⟩ := hv
      have hp0 : p = 0 := by omega
      subst hp0
      rw [hl0] at k6
      have HE : Hid (_) := hE
      clear hE hSw hT oW oF hr hTf
      go_enter Yba.func20, Yba.ntmps20
      go_wp2_with fail
      go_quiet ((go_at_call 36; exact Calls.quiet_of_same (HE.out _ _ _)))
      rename_i K1 hK1
      refine hK1 _ _ ?_
      go_wp2_with fail
      go_ret
      exact ⟨rfl, (Keeps.refl _ _).drewN _⟩
    · simp only [Value.slice.injEq] at hv
      obtain ⟨rfl, _, rfl⟩ := hv
      have b10 : (p : Int) ≤ (cW : Int) := by omega
      have HE : Hid (_) := hE
      clear hE hSw hT oW oF hr hTf ht hs hh
      go_enter Yba.func20, Yba.ntmps20
      go_wp2_with fail
      by_cases hpc : p = cW
      · subst hpc
        go_quiet ((go_at_call 36; exact Calls.quiet_of_same (HE.out _ _ _)))
        all_goals
          rename_i K1 hK1
          refine hK1 _ _ ?_
          go_wp2_with fail
          go_ret
          exact ⟨rfl, (Keeps.refl _ _).drewN _⟩
      · go_quiet ((go_at_call 36; exact Calls.quiet_of_same (HE.out _ _ _)))
        all_goals
          rename_i K1 hK1
          refine hK1 _ _ ?_
          go_wp2_with fail
          go_ret
          exact ⟨rfl, (Keeps.refl _ _).drewN _⟩
  · have hlt : p < q := by omega
    rcases oW.2 with ⟨hv, h0⟩ | ⟨g, cap, cur, hv, hg, hh, hn, hcm, hs, ht⟩
    · simp only [Value.slice.injEq] at hv
      omega
    · simp only [Value.slice.injEq] at hv
      obtain ⟨rfl, _, rfl⟩ := hv
      have cS := own_ints oW
      have hsl : ((sw.drop p).take (q - p)).length = q - p := by rw [List.length_take, List.length_drop]; omega
      have hB := fun n => bs_nat g p (cW - p) ((sw.drop p).take (q - p)) c (w.drewN n) (fun j y hj => by
        have hj' : j < q - p := by
          have := (List.getElem?_eq_some_iff.1 hj).1
          rw [hsl] at this; exact this
        rw [List.getElem?_take, if_pos hj', List.getElem?_drop] at hj
        exact cS (p + j) y hj) hSw.1 (by rw [hsl]; omega)
      rw [hsl] at hB
      have hcnt := count_le _ hSw.1 c
      have hTv := hSw.2 c hc
      rw [hcnt] at hTv
      have hle : ((sw.drop p).take (q - p)).countP (fun y => decide (y < c)) ≤ q - p := Nat.le_trans List.countP_le_length (by rw [hsl]; exact Nat.le_refl _)
      generalize ((sw.drop p).take (q - p)).countP (fun y => decide (y < c)) = r at *
      have b10 : (q : Int) ≤ (cW : Int) := by omega
      have b11 : p ≠ cW := by omega
      have HE : Hid (_) := hB
      have HT : Hid (_) := hTv
      clear hB hSw hT oW oF hr ht hs hh cS hcnt hsl hTv
      by_cases hmem : c ∈ (sw.drop p).take (q - p)
      · have HM : Hid (_) := hmem
        have hd : decide (c ∈ (sw.drop p).take (q - p)) = true := decide_eq_true hmem
        clear hmem
        rw [hd] at HE
        have hTT : T sf vf k c = decide ((r + 1) % 2 = 1) := by rw [HT.out, if_pos HM.out]
        rw [hTT]
        clear hTT hd HT HM
        have e2 : Int.tmod ((r : Int) + 1) 2 = (((r + 1) % 2 : Nat) : Int) := by rw [Int.tmod_eq_emod_of_nonneg (by omega)]; omega
        go_enter Yba.func20, Yba.ntmps20
        go_wp2_with fail
        go_quiet ((go_at_call 36; exact Calls.quiet_of (HE.out _)))
        rename_i K1 hK1
        refine hK1 _ _ ?_
        go_wp2_with fail
        go_ret
        refine ⟨?_, (Keeps.refl _ _).drewN _⟩
        show Ending.returned (.bool (((r : Int) + 1) % 2 == 1)) = _
        rw [show ((r : Int) + 1) = ((r + 1 : Nat) : Int) by omega, par]
      · have HM : Hid (_) := hmem
        have hd : decide (c ∈ (sw.drop p).take (q - p)) = false := decide_eq_false hmem
        clear hmem
        rw [hd] at HE
        have hTT : T sf vf k c = decide (r % 2 = 1) := by rw [HT.out, if_neg HM.out]; rfl
        rw [hTT]
        clear hTT hd HT HM
        have e2 : Int.tmod (r : Int) 2 = ((r % 2 : Nat) : Int) := by rw [Int.tmod_eq_emod_of_nonneg (by omega)]; omega
        go_enter Yba.func20, Yba.ntmps20
        go_wp2_with fail
        go_quiet ((go_at_call 36; exact Calls.quiet_of (HE.out _)))
        rename_i K1 hK1
        refine hK1 _ _ ?_
        go_wp2_with fail
        go_ret
        refine ⟨?_, (Keeps.refl _ _).drewN _⟩
        show Ending.returned (.bool ((r : Int) % 2 == 1)) = _
        rw [par]

theorem takes_any (B cb room left m k c : Nat) (sf vf : Nat → Nat) (w : World) (hC : CV B cb room left m sf vf w) (hk : k < m) (hc : c ≤ room) (hroom : room ≤ 47) (hm : m ≤ 100) :
    Calls Yba.prog 20 #[.pointer (some ⟨cb, 0, none⟩), .int .i64 (k : Int), .int .i64 (c : Int)] w fun e w' => e = .returned (.bool (T sf vf k c)) ∧ Keeps (fun _ => False) w w' := by
  rcases hC with ⟨d, h⟩ | ⟨d, h⟩
  · exact takes_sw cb d.gf m d.cF d.cW k c room d.aW B d.sw d.fr sf vf _ _ _ _ _ _ left w h.row h.oW h.oF h.tk hk hc hroom hm
  · by_cases hlt : k < d.m0
    · exact takes_sw cb d.gf d.m0 d.cF d.cW k c room d.aW B d.sw d.fr sf vf _ _ _ _ _ _ left w h.row h.oW h.oF h.tk hlt hc hroom (by have := h.le; omega)
    · have hle := h.le
      have hb := h.bits (k - d.m0) (by omega) c hc
      rw [show d.m0 + (k - d.m0) = k by omega] at hb
      have k0 := h.row.cell (i := 0) (by omega)
      have k7 := h.row.cell (i := 7) (by omega)
      have k10 := h.row.cell (i := 10) (by omega)
      simp only [cvF] at k0 k7 k10
      have hck := h.ck
      have cw := h.tn.cell (i := k - d.m0) (by omega)
      have hlim := h.lim (k - d.m0)
      have hand := u64_and_nat (d.tw (k - d.m0)) (2 ^ c) hlim (Nat.pow_lt_pow_right (by omega) (by omega : c < 64))
      have hneq : ((((d.tw (k - d.m0)) &&& 2 ^ c : Nat) : Int) != 0) = T sf vf k c := by
        rw [← hb, and_pow]
      rw [← hneq]
      clear h hb hneq
      have hpw : (((2 ^ c : Nat)) : Int) = (2 : Int) ^ c := by simp
      rw [hpw] at hand
      have hp64 : (2 : Int) ^ c < 18446744073709551616 := by rw [← hpw]; have := Nat.pow_lt_pow_right (a := 2) (by omega) (by omega : c < 64); omega
      have hp0 : (0 : Int) ≤ (2 : Int) ^ c := by rw [← hpw]; exact Int.natCast_nonneg _
      have hwr : IntKind.u64.wrap ((2 : Int) ^ c) = (2 : Int) ^ c := by rw [IntKind.wrap_u64, Int.emod_eq_of_lt hp0 hp64]
      generalize hj : k - d.m0 = j at *
      generalize d.tw j = x at *
      generalize x &&& 2 ^ c = z at *
      have b1 : (d.m0 : Int) ≤ (k : Int) := by omega
      have b2 : (k : Int) - (d.m0 : Int) = (j : Int) := by omega
      have b3 : Int.tdiv (room : Int) 64 = 0 := by rw [Int.tdiv_eq_ediv_of_nonneg (by omega)]; omega
      have b4 : Int.tdiv (c : Int) 64 = 0 := by rw [Int.tdiv_eq_ediv_of_nonneg (by omega)]; omega
      have b5 : Int.tmod (c : Int) 64 = (c : Int) := by rw [Int.tmod_eq_emod_of_nonneg (by omega)]; omega
      have b6 : (j : Int) ≤ ((m - d.m0 : Nat) : Int) := by omega
      have b7 : (0 : Int) ≤ (j : Int) := by omega
      have b8 : j ≠ d.ck := by omega
      have b9 : (0 : Int) < ((m - d.m0 - j : Nat) : Int) := by omega
      have b10 : (0 : Int) ≤ (c : Int) := by omega
      go_enter Yba.func20, Yba.ntmps20
      go_wp2_with fail
      go_quiet (fail)
      rename_i K1 hK1
      refine hK1 _ _ ?_
      clear hK1
      go_wp2_with fail
      go_quiet (fail)
      rename_i K1 hK1
      refine hK1 _ _ ?_
      clear hK1
      go_wp2_with fail
      go_ret
      exact ⟨rfl, ((Keeps.refl _ _).drewN _).drewN _⟩
end Go.Proofs.Ybulkbnbu.Kn
