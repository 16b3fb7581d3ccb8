/-
  The law's own record of what it expects: push.
-/
import Derived.Test.YbulkbndkDoorAnn
namespace Go.Proofs.YbulkbndkDoor.Pr
set_option linter.unusedSimpArgs false
set_option linter.unusedVariables false
open Go.ChangeShapes Go.WideShapes Go.ChangeAt Go.RowKit

theorem lit35 (b : Act) (g : Nat → Value) (hg : ∀ t, b.tmps[t]?.getD undef = g t) (hN : b.tmps.size = 35) (hd : b.defers = []) : b = { tmps := (g 0 :: g 1 :: g 2 :: g 3 :: g 4 :: g 5 :: g 6 :: g 7 :: g 8 :: g 9 :: g 10 :: g 11 :: g 12 :: g 13 :: g 14 :: g 15 :: g 16 :: g 17 :: g 18 :: g 19 :: g 20 :: g 21 :: g 22 :: g 23 :: g 24 :: g 25 :: g 26 :: g 27 :: g 28 :: g 29 :: g 30 :: g 31 :: g 32 :: g 33 :: g 34 :: []).toArray, defers := [] } := by
  obtain ⟨tm, df⟩ := b
  obtain rfl : df = [] := hd
  obtain rfl : (fun t => tm[t]?.getD undef) = g := funext hg
  exact congrArg (fun x => Act.mk x []) (tmps_eq hN)

set_option maxRecDepth 100000 in
set_option maxHeartbeats 4000000 in
theorem push_r3 {Q : Exit → Act → World → Prop} (X j q st rc : Nat) (rf : Nat → Value) (m BB : Nat) (xs : List Value) (f : Act) (w : World) (hj : j < 4) (q0 : w.cell? ⟨q, 0, none⟩ = some (.int .u32 (st : Int))) (q0b : q ≠ X) (q0r : (rf j).ownBlock ≠ some q) (q1 : w.cell? ⟨q, 1, none⟩ = some (.int .u32 (rc : Int))) (q1b : q ≠ X) (q1r : (rf j).ownBlock ≠ some q)
    (hr : w.rowIs X 92 4 rf) (hown : w.ownsRow BB 98 2 (rf j) m xs) (hm : m ≤ 1000000) (nh : (rf j).ownBlock ≠ some X) (hBB : BB ≤ w.heap.size)
    (hsz : f.tmps.size = 35) (hds : f.defers = []) (ht0 : f.tmps[0]?.getD undef = .pointer (some ⟨X, 0, none⟩)) (ht2 : f.tmps[2]?.getD undef = .int .i64 (j : Int)) (ht7 : f.tmps[7]?.getD undef = .pointer (some ⟨q, 0, none⟩))
    (hend : ∀ f' w' gg cap, f'.tmps.size = 35 → f'.defers = [] → (∀ t, t < 8 → f'.tmps[t]?.getD undef = f.tmps[t]?.getD undef) → Apd w w' X j 92 4 rf BB 98 2 m xs [.int .u32 (st : Int), .int .u32 (rc : Int)] gg cap → Q .normal f' w') :
    Code.wp Ybad.prog ((Ybad.f6.body.bind (reg 3)).getD .skip) Q f w := by
  conv => arg 2; whnf
  obtain ⟨i0, hi0, hz0, hz1, hz2⟩ := info_parts info98
  have hj0 : (0 : Int) ≤ (j : Int) := by omega
  have hj1 : (j : Int) < 4 := by omega
  refine app_shape (N := 35) f w (by kernel_rfl) (fun i => match i with
    | 0 => .pointer (some ⟨X, 0, none⟩)
    | 1 => .int .i64 (j : Int)
    | 2 => .pointer (some ⟨X, 0, none⟩)
    | 3 => .int .i64 (j : Int)
    | 4 => .pointer (some ⟨X, 0, none⟩)
    | 5 => .pointer (some ⟨X, j, none⟩)
    | 6 => rf j
    | 7 => .agg #[.int .u32 (st : Int), .int .u32 (rc : Int)]
    | 10 => .pointer (some ⟨X, 0, none⟩)
    | 11 => .pointer (some ⟨X, j, none⟩)
    | _ => undef) 6 8 9 12 (by decide) rfl rfl rfl X j 92 4 rf BB 98 2 8 m xs [.int .u32 (st : Int), .int .u32 (rc : Int)] 98 91 i0 _ hr hj hown hm nh hBB Ybad.underlying91 hi0 hz0 hz1 hz2 rfl (by omega) (by omega) rfl rfl (by intro q hq; simp at hq; first | (subst hq; rfl) | (rcases hq with rfl | rfl <;> rfl) | (rcases hq with rfl | rfl | rfl <;> rfl) | (rcases hq with rfl | rfl | rfl | rfl <;> rfl)) 29 31 0 32 rfl rfl rfl rfl (by simp) (by simp) rfl (by simp) rfl hsz hds ?_ ?_ ?_ ?_ ?_
  · intro i o hi h1 h2 h3
    match i, hi, h1, h2, h3 with
    | 0, hi, _, _, _ => (simp only [List.getElem?_toArray, List.getElem?_cons_zero, List.getElem?_cons_succ, Option.some.injEq] at hi; subst hi; simp)
    | 1, hi, _, _, _ => (simp only [List.getElem?_toArray, List.getElem?_cons_zero, List.getElem?_cons_succ, Option.some.injEq] at hi; subst hi; simp)
    | 2, hi, _, _, _ => (simp only [List.getElem?_toArray, List.getElem?_cons_zero, List.getElem?_cons_succ, Option.some.injEq] at hi; subst hi; simp)
    | 3, hi, _, _, _ => (simp only [List.getElem?_toArray, List.getElem?_cons_zero, List.getElem?_cons_succ, Option.some.injEq] at hi; subst hi; simp)
    | 4, hi, _, _, _ => (simp only [List.getElem?_toArray, List.getElem?_cons_zero, List.getElem?_cons_succ, Option.some.injEq] at hi; subst hi; simp)
    | 5, hi, _, _, _ => (simp only [List.getElem?_toArray, List.getElem?_cons_zero, List.getElem?_cons_succ, Option.some.injEq] at hi; subst hi; simp)
    | 6, hi, _, _, _ => (simp only [List.getElem?_toArray, List.getElem?_cons_zero, List.getElem?_cons_succ, Option.some.injEq] at hi; subst hi; simp)
    | 7, hi, _, _, _ => (simp only [List.getElem?_toArray, List.getElem?_cons_zero, List.getElem?_cons_succ, Option.some.injEq] at hi; subst hi; simp)
    | 8, hi, _, _, _ => (simp only [List.getElem?_toArray, List.getElem?_cons_zero, List.getElem?_cons_succ, Option.some.injEq] at hi; subst hi; simp)
    | 9, hi, _, _, _ => (simp only [List.getElem?_toArray, List.getElem?_cons_zero, List.getElem?_cons_succ, Option.some.injEq] at hi; subst hi; simp)
    | 10, hi, _, _, _ => (simp only [List.getElem?_toArray, List.getElem?_cons_zero, List.getElem?_cons_succ, Option.some.injEq] at hi; subst hi; simp)
    | 11, hi, _, _, _ => (simp only [List.getElem?_toArray, List.getElem?_cons_zero, List.getElem?_cons_succ, Option.some.injEq] at hi; subst hi; simp)
    | 12, hi, h1, h2, h3 => exact absurd rfl h3
    | _ + 13, hi, _, _, _ => simp at hi
  · intro i o hi h1 h2 h3 b wx hcl hhd hdat hold
    match i, hi, h1, h2, h3 with
    | 0, hi, h1, h2, h3 =>
      simp only [List.getElem?_toArray, List.getElem?_cons_zero, List.getElem?_cons_succ, Option.some.injEq] at hi
      subst hi
      have e0 : b.tmps[0]?.getD undef = .pointer (some ⟨X, 0, none⟩) := (hold 0 (by decide)).trans ht0
      clear hold hdat
      show _ = Result.ok (Next.value (.pointer (some ⟨X, 0, none⟩))) wx
      go_simp
    | 1, hi, h1, h2, h3 =>
      simp only [List.getElem?_toArray, List.getElem?_cons_zero, List.getElem?_cons_succ, Option.some.injEq] at hi
      subst hi
      have e2 : b.tmps[2]?.getD undef = .int .i64 (j : Int) := (hold 2 (by decide)).trans ht2
      clear hold hdat
      show _ = Result.ok (Next.value (.int .i64 (j : Int))) wx
      go_simp
    | 2, hi, h1, h2, h3 =>
      simp only [List.getElem?_toArray, List.getElem?_cons_zero, List.getElem?_cons_succ, Option.some.injEq] at hi
      subst hi
      have e0 : b.tmps[0]?.getD undef = .pointer (some ⟨X, 0, none⟩) := (hold 0 (by decide)).trans ht0
      clear hold hdat
      show _ = Result.ok (Next.value (.pointer (some ⟨X, 0, none⟩))) wx
      go_simp
    | 3, hi, h1, h2, h3 =>
      simp only [List.getElem?_toArray, List.getElem?_cons_zero, List.getElem?_cons_succ, Option.some.injEq] at hi
      subst hi
      have e2 : b.tmps[2]?.getD undef = .int .i64 (j : Int) := (hold 2 (by decide)).trans ht2
      clear hold hdat
      show _ = Result.ok (Next.value (.int .i64 (j : Int))) wx
      go_simp
    | 4, hi, h1, h2, h3 =>
      simp only [List.getElem?_toArray, List.getElem?_cons_zero, List.getElem?_cons_succ, Option.some.injEq] at hi
      subst hi
      have e25 : b.tmps[25]?.getD undef = .pointer (some ⟨X, 0, none⟩) := hdat 2 25 (by simp) (by decide) (by decide) (by decide) rfl
      clear hold hdat
      show _ = Result.ok (Next.value (.pointer (some ⟨X, 0, none⟩))) wx
      go_simp
    | 5, hi, h1, h2, h3 =>
      simp only [List.getElem?_toArray, List.getElem?_cons_zero, List.getElem?_cons_succ, Option.some.injEq] at hi
      subst hi
      have e27 : b.tmps[27]?.getD undef = .pointer (some ⟨X, 0, none⟩) := hdat 4 27 (by simp) (by decide) (by decide) (by decide) rfl
      have e26 : b.tmps[26]?.getD undef = .int .i64 (j : Int) := hdat 3 26 (by simp) (by decide) (by decide) (by decide) rfl
      clear hold hdat
      show _ = Result.ok (Next.value (.pointer (some ⟨X, j, none⟩))) wx
      go_simp
    | 6, hi, h1, h2, h3 =>
      simp only [List.getElem?_toArray, List.getElem?_cons_zero, List.getElem?_cons_succ, Option.some.injEq] at hi
      subst hi
      have e28 : b.tmps[28]?.getD undef = .pointer (some ⟨X, j, none⟩) := hdat 5 28 (by simp) (by decide) (by decide) (by decide) rfl
      clear hold hdat
      have hh := hhd (by simp)
      obtain ⟨xa, xc, hxs, _⟩ := own_shape hown
      rw [hxs] at hh
      show _ = Result.ok (Next.value (rf j)) wx
      rw [hxs]
      go_simp
    | 7, hi, h1, h2, h3 =>
      simp only [List.getElem?_toArray, List.getElem?_cons_zero, List.getElem?_cons_succ, Option.some.injEq] at hi
      subst hi
      have e7 : b.tmps[7]?.getD undef = .pointer (some ⟨q, 0, none⟩) := (hold 7 (by decide)).trans ht7
      clear hold hdat
      have kq0 := hcl _ _ q0 (by simpa using q0b) (by simpa using q0r)
      have kq1 := hcl _ _ q1 (by simpa using q1b) (by simpa using q1r)
      show _ = Result.ok (Next.value (.agg #[.int .u32 (st : Int), .int .u32 (rc : Int)])) wx
      go_simp
    | 8, hi, h1, h2, h3 => exact absurd rfl h1
    | 9, hi, h1, h2, h3 => exact absurd rfl h2
    | 10, hi, h1, h2, h3 =>
      simp only [List.getElem?_toArray, List.getElem?_cons_zero, List.getElem?_cons_succ, Option.some.injEq] at hi
      subst hi
      have e23 : b.tmps[23]?.getD undef = .pointer (some ⟨X, 0, none⟩) := hdat 0 23 (by simp) (by decide) (by decide) (by decide) rfl
      clear hold hdat
      show _ = Result.ok (Next.value (.pointer (some ⟨X, 0, none⟩))) wx
      go_simp
    | 11, hi, h1, h2, h3 =>
      simp only [List.getElem?_toArray, List.getElem?_cons_zero, List.getElem?_cons_succ, Option.some.injEq] at hi
      subst hi
      have e33 : b.tmps[33]?.getD undef = .pointer (some ⟨X, 0, none⟩) := hdat 10 33 (by simp) (by decide) (by decide) (by decide) rfl
      have e24 : b.tmps[24]?.getD undef = .int .i64 (j : Int) := hdat 1 24 (by simp) (by decide) (by decide) (by decide) rfl
      clear hold hdat
      show _ = Result.ok (Next.value (.pointer (some ⟨X, j, none⟩))) wx
      go_simp
    | 12, hi, h1, h2, h3 => exact absurd rfl h3
    | _ + 13, hi, _, _, _ => simp at hi
  · intro b wx hdat hold
    have e30 : b.tmps[30]?.getD undef = .agg #[.int .u32 (st : Int), .int .u32 (rc : Int)] := hdat 7 30 (by simp) (by decide) (by decide) (by decide) rfl
    clear hold hdat
    go_simp
  · intro b wx gg cap hdat hsv hc hf hsh
    have e34 : b.tmps[34]?.getD undef = .pointer (some ⟨X, j, none⟩) := hdat 11 34 (by simp) (by decide) (by decide) (by decide) rfl
    clear hdat
    obtain ⟨x, y, z, hxs⟩ := hsh
    rw [hxs] at hc
    go_simp
  · intro f' w' gg cap h1 h2 h3 h4
    exact hend f' w' gg cap h1 h2 (fun t ht => h3 t (by revert t; decide)) h4

def ecells (es : List (Nat × Nat)) : List Value := es.flatMap fun e => [.int .u32 (e.1 : Int), .int .u32 (e.2 : Int)]
theorem ecells_append (es : List (Nat × Nat)) (e : Nat × Nat) : ecells (es ++ [e]) = ecells es ++ [.int .u32 (e.1 : Int), .int .u32 (e.2 : Int)] := by simp [ecells]
def ints (xs : List Nat) : List Value := xs.map fun (x : Nat) => Value.int .i64 (x : Int)

structure Ex (B X O : Nat) (S : SS) (ov : Value) (ev : Nat → Value) (w : World) : Prop where
  arr : w.rowIs X 92 4 ev
  oc : w.rowIs O 93 1 (fun _ => ov)
  od : w.ownsRow B 3 1 ov S.od.length (ints S.od)
  rows : ∀ j, j < 4 → w.ownsRow B 98 2 (ev j) (S.ex j).length (ecells (S.ex j))
  dis : ∀ i j k, i < 4 → j < 4 → (ev i).ownBlock = some k → (ev j).ownBlock = some k → i = j
  bx : B ≤ X
  bo : B ≤ O
theorem Ex.fr {B X O : Nat} {S : SS} {ov : Value} {ev : Nat → Value} {w w' : World} {T : List TypeId} {B' : Nat} (h : Ex B X O S ov ev w) (hF : Fr B' T w w') (h1 : 92 ∉ T) (h2 : 93 ∉ T) (h3 : 3 ∉ T) (h4 : 98 ∉ T) : Ex B X O S ov ev w' :=
  ⟨hF.row h.arr h1, hF.row h.oc h2, hF.owns h.od h3, fun j hj => hF.owns (h.rows j hj) h4, h.dis, h.bx, h.bo⟩
def EX (B X O : Nat) (S : SS) (w : World) : Prop := ∃ ov ev, Ex B X O S ov ev w
theorem EX.fr {B X O : Nat} {S : SS} {w w' : World} {T : List TypeId} {B' : Nat} (h : EX B X O S w) (hF : Fr B' T w w') (h1 : 92 ∉ T) (h2 : 93 ∉ T) (h3 : 3 ∉ T) (h4 : 98 ∉ T) : EX B X O S w' := by
  obtain ⟨ov, ev, h⟩ := h
  exact ⟨ov, ev, h.fr hF h1 h2 h3 h4⟩
def TE : List TypeId := [92, 93, 3, 98]

theorem Ex.pushE {B X O : Nat} {S : SS} {ov : Value} {ev : Nat → Value} {w w' : World} {j gg cap : Nat} {e : Nat × Nat} (h : Ex B X O S ov ev w) (hj : j < 4)
    (ha : Apd w w' X j 92 4 ev B 98 2 (S.ex j).length (ecells (S.ex j)) [.int .u32 (e.1 : Int), .int .u32 (e.2 : Int)] gg cap) :
    Ex B X O ⟨fun i => if i = j then S.ex j ++ [e] else S.ex i, S.od⟩ ov (fun i => if i = j then .slice (some ⟨gg, 0, none⟩) ((S.ex j).length + 1) cap else ev i) w' ∧ Fr B [92, 98] w w' := by
  have hF : Fr B [92, 98] w w' := ha.fr h.arr (h.rows j hj) h.bx (Nat.le_refl _)
  have hat := ha.at_
  have hkeep : ∀ k, k < w.heap.size → k ≠ X → (ev j).ownBlock ≠ some k → w'.heap[k]? = w.heap[k]? := fun k hk h1 h2 => ha.keeps.block k hk (by rintro (e | e); exact h1 e; exact h2 e)
  refine ⟨⟨ha.row, hF.row h.oc (by decide), hF.owns h.od (by decide), fun i hi => ?_, ?_, h.bx, h.bo⟩, hF⟩
  · by_cases eij : i = j
    · subst eij
      have := ha.owns
      simp only [if_true, List.length_append, List.length_singleton, ecells_append]
      exact this
    · simp only [if_neg eij]
      exact ownsRow_of_block (h.rows i hi) fun k hk => hkeep k (ownsRow_lt (h.rows i hi) k hk) (ne_of_tags h.arr (h.rows i hi) (by decide) hk) fun e => eij (h.dis i j k hi hj hk e)
  · have key : ∀ i k, i < 4 → i ≠ j → (ev i).ownBlock = some k → k ≠ gg := fun i k hi hne hk e => by
      subst e
      rcases hat with h1 | h1
      · exact hne (h.dis i j k hi hj hk h1)
      · have := ownsRow_lt (h.rows i hi) k hk; omega
    intro i i' k hi hi' h1 h2
    by_cases e1 : i = j <;> by_cases e2 : i' = j
    · rw [e1, e2]
    · simp only [e1, e2, if_true, if_false] at h1 h2
      exact absurd (by simpa [Value.ownBlock, eq_comm] using h1) (key i' k hi' e2 h2)
    · simp only [e1, e2, if_true, if_false] at h1 h2
      exact absurd (by simpa [Value.ownBlock, eq_comm] using h2) (key i k hi e1 h1)
    · simp only [e1, e2, if_false] at h1 h2
      exact h.dis i i' k hi hi' h1 h2

theorem Apd.of {w w0 w1 : World} {hb ho t n : Nat} {f : Nat → Value} {B e size m : Nat} {xs news : List Value} {gg cap : Nat} (hr : w.rowIs hb t n f) (hn : (f ho).ownBlock ≠ some hb) (h0 : Keeps (fun _ => False) w w0) (hown : w1.ownsRow B e size (.slice (some ⟨gg, 0, none⟩) (m + 1) cap) (m + 1) (xs ++ news)) (hg : w0.grownBy w1 (f ho).ownBlock)
    (hat : (f ho).ownBlock = some gg ∨ w.heap.size ≤ gg) : w1.rowIs hb t n f ∧ Apd w (w1.setCell ⟨hb, ho, none⟩ (.slice (some ⟨gg, 0, none⟩) (m + 1) cap)) hb ho t n f B e size m xs news gg cap := by
  have lb := hr.lt
  have hr1 : w1.rowIs hb t n f := (hr.of_block (h0.block hb lb (fun h => h))).of_block (hg.block hb (by have := h0.size; omega) (fun e => hn e.symm))
  have hk1 : Keeps (fun k => k = hb ∨ (f ho).ownBlock = some k) w w1 := (h0.mono fun _ _ h => h.elim).grown hg (fun k hk _ => Or.inr hk)
  refine ⟨hr1, hr1.set ho _, ownsRow_of_block hown (fun k hk => Below.heap_setCell _ _ _ _ ?_), hat, hk1.setCell (fun _ => Or.inl rfl) _⟩
  obtain rfl : gg = k := by simpa [Value.ownBlock] using hk
  show gg ≠ hb
  rcases hat with h | h
  · intro e; apply hn; rw [h, e]
  · omega

theorem Ex.pushO {B X O : Nat} {S : SS} {ov : Value} {ev : Nat → Value} {w w' : World} {j gg cap : Nat} (h : Ex B X O S ov ev w) (ha : Apd w w' O 0 93 1 (fun _ => ov) B 3 1 S.od.length (ints S.od) [.int .i64 (j : Int)] gg cap) :
    Ex B X O ⟨S.ex, S.od ++ [j]⟩ (.slice (some ⟨gg, 0, none⟩) (S.od.length + 1) cap) ev w' ∧ Fr B [93, 3] w w' := by
  have hF : Fr B [93, 3] w w' := ha.fr h.oc h.od h.bo (Nat.le_refl _)
  refine ⟨⟨hF.row h.arr (by decide), row_one ha.row (by simp), ?_, fun j hj => hF.owns (h.rows j hj) (by decide), h.dis, h.bx, h.bo⟩, hF⟩
  have := ha.owns
  simpa [ints] using this

def ew (w : World) (st rc : Nat) : World := w.alloc (Obj.cells #[.int .u32 (st : Int), .int .u32 (rc : Int)] 98)
def e2 (st rc : Nat) (i : Nat) : Value := if i = 0 then .int .u32 (st : Int) else .int .u32 (rc : Int)
theorem ew_row (w : World) (st rc : Nat) : (ew w st rc).rowIs w.heap.size 98 2 (e2 st rc) := row_new 2 rfl fun i hi => by
  have : i = 0 ∨ i = 1 := by omega
  rcases this with rfl | rfl <;> rfl

theorem push_fin {Q : Exit → Act → World → Prop} (B X O j st rc q : Nat) (hj : j < 4) (S S1 : SS) (ov : Value) (ev : Nat → Value) (w w1 : World) (f1 : Act) (hB1 : Ex B X O S1 ov ev w1) (hF1 : Fr B TE w w1) (he1 : S1.ex = S.ex) (ho1 : S1.od = (S.push j (st, rc)).od) (hq1 : w1.rowIs q 98 2 (e2 st rc)) (hqB : ∀ k, (ev j).ownBlock = some k → k ≠ q) (hl : (S.ex j).length ≤ 1000000) (hBw : B ≤ w1.heap.size)
    (hs : f1.tmps.size = 35) (hd : f1.defers = []) (h0 : f1.tmps[0]?.getD undef = .pointer (some ⟨X, 0, none⟩)) (h2 : f1.tmps[2]?.getD undef = .int .i64 (j : Int)) (h7 : f1.tmps[7]?.getD undef = .pointer (some ⟨q, 0, none⟩))
    (hend : ∀ f' w', f'.tmps.size = 35 → f'.defers = [] → EX B X O (S.push j (st, rc)) w' → Fr B TE w w' → Q .normal f' w') :
      Code.wp Ybad.prog ((Ybad.f6.body.bind (reg 3)).getD .skip) Q f1 w1 := by
  have nq : q ≠ X := fun e => by
    obtain ⟨c1, h1⟩ := row_tag hq1
    obtain ⟨c2, h2⟩ := row_tag hB1.arr
    exact tag_ne h1 h2 (by decide) e
  have nr : (ev j).ownBlock ≠ some q := fun e => hqB _ e rfl
  have o2 := hB1.rows j hj
  refine push_r3 X j q st rc ev (S1.ex j).length B (ecells (S1.ex j)) f1 w1 hj (hq1.cell (i := 0) (by omega)) nq nr (hq1.cell (i := 1) (by omega)) nq nr hB1.arr o2 (by rw [he1]; exact hl) (own_ne hB1.arr o2 (by decide)) hBw hs hd h0 h2 h7 ?_
  intro f' w' gg cap hs' hd' _ hA
  obtain ⟨hB2, hF2⟩ := hB1.pushE (e := (st, rc)) hj hA
  have : S.push j (st, rc) = ⟨fun i => if i = j then S1.ex j ++ [(st, rc)] else S1.ex i, S1.od⟩ := by
    rw [ho1, he1]; rfl
  refine hend f' w' hs' hd' ?_ (hF1.trans (hF2.mono (by decide)))
  rw [this]
  exact ⟨_, _, hB2⟩

set_option maxRecDepth 100000 in
set_option maxHeartbeats 4000000 in
theorem push_any (B X O j st rc : Nat) (hj : j < 4) (S : SS) (w : World) (h : EX B X O S w) (hl : (S.ex j).length ≤ 1000000) (hl2 : S.od.length ≤ 1000000) (hBw : B ≤ w.heap.size) :
    Calls Ybad.prog 6 #[.pointer (some ⟨X, 0, none⟩), .pointer (some ⟨O, 0, none⟩), .int .i64 (j : Int), .agg #[.int .u32 (st : Int), .int .u32 (rc : Int)]] w fun e' w' => e' = .returned (.tuple #[]) ∧ EX B X O (S.push j (st, rc)) w' ∧ Fr B TE w w' := by
  obtain ⟨i0, hi0, hz0, hz1, hz2⟩ := info_parts info3
  obtain ⟨ov, ev, hB⟩ := h
  have hj0 : (0 : Int) ≤ (j : Int) := by omega
  have hj1 : (j : Int) < 4 := by omega
  have hFq : Fr 0 [] w (ew w st rc) := (Fr.refl _ _ _).alloc _
  have hB0 := hB.fr hFq (by simp) (by simp) (by simp) (by simp)
  have hqB : ∀ k, (ev j).ownBlock = some k → k ≠ w.heap.size := fun k hk e => by have := ownsRow_lt (hB.rows j hj) k hk; omega
  obtain ⟨ba, bc, hbv, _⟩ := own_shape (hB.rows j hj)
  obtain ⟨oa, oc, hov, _⟩ := own_shape hB.od
  have cj := hB.arr.cell hj
  rw [hbv] at cj
  have lX : X < w.heap.size := hB.arr.lt
  have lO : O < w.heap.size := hB.oc.lt
  have HB0 : Hid (Ex B X O S ov ev (ew w st rc)) := hB0
  have HQB : Hid (∀ k, (ev j).ownBlock = some k → k ≠ w.heap.size) := hqB
  have HF0 : Hid (Fr 0 [] w (ew w st rc)) := hFq
  by_cases hne : S.ex j = []
  · have hod : (S.push j (st, rc)).od = S.od ++ [j] := by
      unfold SS.push
      simp [hne]
    have hl0 : (S.ex j).length = 0 := by rw [hne]; rfl
    rw [hl0] at cj
    have co := hB.oc.cell (i := 0) (by omega)
    have fo := hB.oc.frozen 0
    have HOD : Hid ((S.push j (st, rc)).od = S.od ++ [j]) := hod
    have HOC : Hid (w.rowIs O 93 1 (fun _ => ov)) := hB.oc
    clear hod hqB hB hB0 hFq hne
    subst hov
    have HNO : Hid ((Value.slice oa S.od.length oc).ownBlock ≠ some O) := own_ne HB0.out.oc HB0.out.od (by decide)
    have HOW : Hid (((w.alloc (Obj.cells #[.int .u32 (st : Int), .int .u32 (rc : Int)] 98)).alloc (Obj.cells #[.int .i64 (j : Int)] 3)).ownsRow B 3 1 (.slice oa S.od.length oc) S.od.length (ints S.od)) := World.ownsRow.alloc (w := ew w st rc) HB0.out.od _
    have HAP : Hid (∀ gg cap w3, w3.ownsRow B 3 1 (.slice (some ⟨gg, 0, none⟩) (S.od.length + 1) cap) (S.od.length + 1) (ints S.od ++ [.int .i64 (j : Int)]) → ((w.alloc (Obj.cells #[.int .u32 (st : Int), .int .u32 (rc : Int)] 98)).alloc (Obj.cells #[.int .i64 (j : Int)] 3)).grownBy w3 (Value.slice oa S.od.length oc).ownBlock → ((Value.slice oa S.od.length oc).ownBlock = some gg ∨ gg = w.heap.size + 2) →
        w3.rowIs O 93 1 (fun _ => .slice oa S.od.length oc) ∧ Apd (ew w st rc) (w3.setCell ⟨O, 0, none⟩ (.slice (some ⟨gg, 0, none⟩) (S.od.length + 1) cap)) O 0 93 1 (fun _ => .slice oa S.od.length oc) B 3 1 S.od.length (ints S.od) [.int .i64 (j : Int)] gg cap) := fun gg cap w3 h1 h2 h3 =>
      Apd.of (w := ew w st rc) (ho := 0) (f := fun _ => .slice oa S.od.length oc) HB0.out.oc HNO.out (((Keeps.refl _ _)).alloc _) h1 h2 (h3.imp id (fun e => by rw [e]; unfold ew; simp))
    have HEW : Hid (ew w st rc = w.alloc (Obj.cells #[.int .u32 (st : Int), .int .u32 (rc : Int)] 98)) := rfl
    go_enter Ybad.func6, Ybad.ntmps6
    go_wp2_with (at_builtin; go_loud (refine wpList_append_lies _ rfl (.tmp 18) (.tmp 20) 93 rfl B 3 i0 _ 1 8 Ybad.underlying93 hi0 hz0 hz1 hz2 rfl (by omega) (.slice oa S.od.length oc) S.od.length (ints S.od) rfl HOW.out ⟨w.heap.size + 1, 0, none⟩ 1 1 [.int .i64 (j : Int)] (by rfl) (by rfl) (news2 w _ #[.int .i64 (j : Int)] 3) (by intro q hq; simp at hq; subst hq; rfl) (by omega) (by unfold maxLen; omega) (by omega) (by simp; omega) (w.heap.size + 2) (by simp) ?_; intro gg cap w3 ho hgrow hat hlt; have HA := HAP.out gg cap w3 ho hgrow hat; have c3 := HA.1.cell (i := 0) (by omega); have f3 := HA.1.frozen 0; have HAA : Hid (Apd (ew w st rc) (w3.setCell ⟨O, 0, none⟩ (.slice (some ⟨gg, 0, none⟩) (S.od.length + 1) cap)) O 0 93 1 (fun _ => .slice oa S.od.length oc) B 3 1 S.od.length (ints S.od) [.int .i64 (j : Int)] gg cap) := HA.2; clear HA ho hgrow hat hlt))
    obtain ⟨hB2, hF2⟩ := HB0.out.pushO HAA.out
    have hq := hF2.row (ew_row w st rc) (by decide)
    have hFw : Fr B TE w (w3.setCell ⟨O, 0, none⟩ (.slice (some ⟨gg, 0, none⟩) (S.od.length + 1) cap)) := HF0.out.none.trans (hF2.mono (by decide))
    refine push_fin B X O j st rc w.heap.size hj S ⟨S.ex, S.od ++ [j]⟩ _ ev w _ _ hB2 hFw rfl HOD.out.symm hq HQB.out hl (by have := hFw.size; omega) rfl rfl rfl rfl rfl ?_
    intro f2 w2 hs2 hd2 hX hFr
    obtain ⟨g2, hg2⟩ : ∃ g : Nat → Value, ∀ t, f2.tmps[t]?.getD undef = g t := ⟨_, fun _ => rfl⟩
    rw [lit35 f2 g2 hg2 hs2 hd2]
    have HX : Hid (EX B X O (S.push j (st, rc)) w2) := hX
    have HFr : Hid (Fr B TE w w2) := hFr
    clear hX hFr hg2
    go_returns
    exact ⟨rfl, HX.out, HFr.out⟩
  · have hI : ((S.ex j).length : Int) ≠ 0 := by
      have : (S.ex j).length ≠ 0 := fun h => hne (List.eq_nil_of_length_eq_zero h)
      omega
    have hod : (S.push j (st, rc)).od = S.od := by
      unfold SS.push
      simp [hne]
    have HOD : Hid ((S.push j (st, rc)).od = S.od) := hod
    clear hod hqB hB hB0 hFq hne
    go_enter Ybad.func6, Ybad.ntmps6
    go_wp2_with fail
    refine push_fin B X O j st rc w.heap.size hj S S ov ev w (ew w st rc) _ HB0.out HF0.out.none rfl HOD.out.symm (ew_row w st rc) HQB.out hl (by have := HF0.out.size; omega) rfl rfl rfl rfl rfl ?_
    intro f2 w2 hs2 hd2 hX hFr
    obtain ⟨g2, hg2⟩ : ∃ g : Nat → Value, ∀ t, f2.tmps[t]?.getD undef = g t := ⟨_, fun _ => rfl⟩
    rw [lit35 f2 g2 hg2 hs2 hd2]
    have HX : Hid (EX B X O (S.push j (st, rc)) w2) := hX
    have HFr : Hid (Fr B TE w w2) := hFr
    clear hX hFr hg2
    go_returns
    exact ⟨rfl, HX.out, HFr.out⟩
end Go.Proofs.YbulkbndkDoor.Pr
