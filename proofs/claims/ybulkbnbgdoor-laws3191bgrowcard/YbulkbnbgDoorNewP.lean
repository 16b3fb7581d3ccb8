/-
  'zzs3191bnew' (function 5): a new search. Its literal, drawn.
-/
import Derived.Test.YbulkbnbgDoorCatch
import Derived.Deep.OwnRows
namespace Go.Proofs.YbulkbnbgDoor.Pr
set_option linter.unusedSimpArgs false
open Go.ChangeShapes Go.WideShapes Go.ChangeAt Go.RowKit
open Any

def nl : Value := .slice none 0 0
def z0 : Value := .int .i64 0
def cells51 (n wd : Int) (p : Option Addr) (a3 a4 a5 a6 a7 a14 a19 a20 a25 a28 a29 a30 : Option Addr) (l3 l5 l19 l20 l25 l29 l30 c19 c20 c25 c29 c30 : Nat) : Array Value :=
  #[.int .i64 n, .int .i64 wd, .pointer p, .slice a3 l3 l3, .slice a4 l3 l3, .slice a5 l5 l5, .slice a6 l5 l5, .slice a7 l5 l5, nl, nl, z0, nl, nl, z0, .slice a14 l5 l5, nl, nl, z0, nl, .slice a19 l19 c19, .slice a20 l20 c20, nl, nl, nl, nl, .slice a25 l25 c25, .float .f64 4607182418800017408, nl, .slice a28 l5 l5, .slice a29 l29 c29, .slice a30 l30 c30, z0, z0, .bool false]
set_option maxRecDepth 100000 in
theorem built51 (n wd : Int) (p : Option Addr) (a3 a4 a5 a6 a7 a14 a19 a20 a25 a28 a29 a30 : Option Addr) (l3 l5 l19 l20 l25 l29 l30 c19 c20 c25 c29 c30 : Nat) : Ybad.prog.built 51 [(0, .int .i64 n), (1, .int .i64 wd), (2, .pointer p), (3, .slice a3 l3 l3), (4, .slice a4 l3 l3), (5, .slice a5 l5 l5), (6, .slice a6 l5 l5), (7, .slice a7 l5 l5), (14, .slice a14 l5 l5), (19, .slice a19 l19 c19), (20, .slice a20 l20 c20), (25, .slice a25 l25 c25), (26, (Value.float FloatKind.f64 4607182418800017408)), (28, .slice a28 l5 l5), (29, .slice a29 l29 c29), (30, .slice a30 l30 c30)] = some (cells51 n wd p a3 a4 a5 a6 a7 a14 a19 a20 a25 a28 a29 a30 l3 l5 l19 l20 l25 l29 l30 c19 c20 c25 c29 c30) := by
  kernel_rfl

theorem info38 : (Ybad.prog.info? 38).map (fun i => (i.zero, i.size, i.bytes)) = some (some (.slice none 0 0), 1, 24) := by kernel_rfl
theorem info58 : (Ybad.prog.info? 58).map (fun i => (i.zero, i.size, i.bytes)) = some (some (.int .u64 0), 1, 8) := by kernel_rfl
theorem info47 : (Ybad.prog.info? 47).map (fun i => (i.zero, i.size, i.bytes)) = some (some (.float .f64 0), 1, 8) := by kernel_rfl
theorem wrap_small (x : Nat) (h1 : x ≤ 6400) (_ : 0 ≤ x) : IntKind.i64.wrap (x : Int) = (x : Int) := by rw [IntKind.wrap_i64]; omega

theorem eval_tmp (b : Act) (t : Nat) : b.eval (.tmp t) = b.tmps[t]?.getD undef := by simp [Act.eval]
theorem eval_const (b : Act) (v : Value) : b.eval (.const v) = v := rfl

theorem run_box {P : Program} (b : Act) (w : World) (o : Oper) (t : TypeId) (x : Operand) (ho : o.op = .box t x) : (execOp b.eval o).run P w = .ok (.value (.pointer (some ⟨w.heap.size, 0, none⟩))) (w.alloc (.cells (b.eval x).cells t)) := by
  unfold execOp
  simp only [ho, Sem.run_bind, Instr.box, newVar, newRow, run_newObj_alloc, Sem.run_pure, Result.andThen_ok]

theorem run_mk {b : Act} {o : Oper} {t e : TypeId} {z : Value} {by_ N x : Nat} (hinf : (Ybad.prog.info? e).map (fun i => (i.zero, i.size, i.bytes)) = some (some z, 1, by_)) (hund : Ybad.prog.underlying t = some (.slice e)) (hN : N ≤ 6400) (hb : by_ ≤ 24) (hz : z.cells = #[z]) (ho : o.op = .makeSlice t (.tmp x) (.tmp x))
    (e1 : b.tmps[x]?.getD undef = .int .i64 (N : Int)) (_ : b.tmps[x]?.getD undef = .int .i64 (N : Int)) (w : World) : (execOp b.eval o).run Ybad.prog w = .ok (.value (.slice (some ⟨w.heap.size, 0, none⟩) N N)) (w.alloc (.cells (madeCells #[z] N) e)) := by
  obtain ⟨i, hi, hz0, hs, hby⟩ := info_parts hinf
  have hr := run_make_row (P := Ybad.prog) t e i z hund hi hz0 hs hz .i64 .i64 N (by rw [hby]; have := Nat.mul_le_mul hb hN; omega) (by omega) w
  unfold execOp
  simp only [ho, Sem.run_bind, eval_tmp, e1, hr, Sem.run_pure, Result.andThen_ok]

/-- How world and tags go on. -/
def Gw (γ : Nat → Nat) (w : World) (γ' : Nat → Nat) (w' : World) : Prop := w.heap.size ≤ w'.heap.size ∧ ∀ k, k < w.heap.size → w'.heap[k]? = w.heap[k]? ∧ γ' k = γ k
theorem Gw.refl (γ : Nat → Nat) (w : World) : Gw γ w γ w := ⟨Nat.le_refl _, fun _ _ => ⟨rfl, rfl⟩⟩
theorem Gw.alloc {γ : Nat → Nat} (w : World) (o : Obj) : Gw γ w γ (w.alloc o) := ⟨by simp, fun k hk => ⟨Below.heap_alloc _ _ _ hk, rfl⟩⟩
theorem Gw.tag {γ : Nat → Nat} (w : World) (o : Obj) (i : Nat) : Gw γ w (fun k => if k = w.heap.size then i else γ k) (w.alloc o) :=
  ⟨by simp, fun k hk => ⟨Below.heap_alloc _ _ _ hk, if_neg (by omega)⟩⟩

/-- A row of n zero values, made by operation i. -/
def Bk (B : Nat) (γ : Nat → Nat) (w : World) (b i e N : Nat) (z : Value) : Prop := B ≤ b ∧ w.rowIs b e N (fun _ => z) ∧ γ b = i
theorem Bk.go {B : Nat} {γ γ' : Nat → Nat} {w w' : World} {b i e N : Nat} {z : Value} (h : Bk B γ w b i e N z) (hg : Gw γ w γ' w') : Bk B γ' w' b i e N z :=
  ⟨h.1, h.2.1.of_block (hg.2 b h.2.1.lt).1, (hg.2 b h.2.1.lt).2.trans h.2.2⟩
def Mk (B : Nat) (γ : Nat → Nat) (w : World) (v : Value) (i e N : Nat) (z : Value) : Prop := ∃ b, v = .slice (some ⟨b, 0, none⟩) N N ∧ Bk B γ w b i e N z
theorem Mk.go {B : Nat} {γ γ' : Nat → Nat} {w w' : World} {v : Value} {i e N : Nat} {z : Value} (h : Mk B γ w v i e N z) (hg : Gw γ w γ' w') : Mk B γ' w' v i e N z := by
  obtain ⟨b, hv, hb⟩ := h
  exact ⟨b, hv, hb.go hg⟩
theorem Mk.made {B : Nat} {γ : Nat → Nat} {w : World} (hB : B ≤ w.heap.size) (i e N : Nat) (z : Value) : Mk B (fun k => if k = w.heap.size then i else γ k) (w.alloc (.cells (madeCells #[z] N) e)) (.slice (some ⟨w.heap.size, 0, none⟩) N N) i e N z :=
  ⟨_, rfl, hB, World.rowIs_made w z N e, if_pos rfl⟩

/-- The search's cells. -/
def Parts (n wd N1 N2 B : Nat) (γ : Nat → Nat) (w : World) (cs : Array Value) : Prop :=
  ∃ p b3 b4 b5 b6 b7 b14 b28, ∃ a19 a20 a25 a29 a30 : Option Addr, ∃ l19 l20 l25 l29 l30 c19 c20 c25 c29 c30 : Nat,
    cs = cells51 (n : Int) (wd : Int) p (some ⟨b3, 0, none⟩) (some ⟨b4, 0, none⟩) (some ⟨b5, 0, none⟩) (some ⟨b6, 0, none⟩) (some ⟨b7, 0, none⟩) (some ⟨b14, 0, none⟩) a19 a20 a25 (some ⟨b28, 0, none⟩) a29 a30 N1 N2 l19 l20 l25 l29 l30 c19 c20 c25 c29 c30 ∧
    Bk B γ w b3 7 58 N1 (.int .u64 0) ∧ Bk B γ w b4 11 58 N1 (.int .u64 0) ∧ Bk B γ w b5 15 21 N2 (.int .i32 0) ∧ Bk B γ w b6 19 21 N2 (.int .i32 0) ∧ Bk B γ w b7 23 21 N2 (.int .i32 0) ∧ Bk B γ w b14 27 38 N2 (.slice none 0 0) ∧ Bk B γ w b28 43 21 N2 (.int .i32 0)
theorem Parts.go {n wd N1 N2 B : Nat} {γ γ' : Nat → Nat} {w w' : World} {cs : Array Value} (h : Parts n wd N1 N2 B γ w cs) (hg : Gw γ w γ' w') : Parts n wd N1 N2 B γ' w' cs := by
  obtain ⟨p, b3, b4, b5, b6, b7, b14, b28, a19, a20, a25, a29, a30, l19, l20, l25, l29, l30, c19, c20, c25, c29, c30, he, h3, h4, h5, h6, h7, h14, h28⟩ := h
  exact ⟨p, b3, b4, b5, b6, b7, b14, b28, a19, a20, a25, a29, a30, l19, l20, l25, l29, l30, c19, c20, c25, c29, c30, he, h3.go hg, h4.go hg, h5.go hg, h6.go hg, h7.go hg, h14.go hg, h28.go hg⟩
def Boxed (n wd N1 N2 B : Nat) (γ : Nat → Nat) (w : World) (v : Value) : Prop := ∃ P cs, v = .pointer (some ⟨P, 0, none⟩) ∧ B ≤ P ∧ w.heap[P]? = some (.cells cs 51 (0, 0)) ∧ γ P = 53 ∧ Parts n wd N1 N2 B γ w cs
theorem Boxed.go {n wd N1 N2 B : Nat} {γ γ' : Nat → Nat} {w w' : World} {v : Value} (h : Boxed n wd N1 N2 B γ w v) (hg : Gw γ w γ' w') : Boxed n wd N1 N2 B γ' w' v := by
  obtain ⟨P, cs, hv, hB, hh, ht, hp⟩ := h
  have hlt : P < w.heap.size := (Array.getElem?_eq_some_iff.1 hh).1
  exact ⟨P, cs, hv, hB, (hg.2 P hlt).1.trans hh, (hg.2 P hlt).2.trans ht, hp.go hg⟩
theorem Boxed.made {n wd N1 N2 B : Nat} {γ : Nat → Nat} {w : World} {b : Act} {cs : Array Value} (hB : B ≤ w.heap.size) (e61 : b.tmps[61]?.getD undef = .agg cs) (hp : Parts n wd N1 N2 B γ w cs) :
    Boxed n wd N1 N2 B (fun k => if k = w.heap.size then 53 else γ k) (w.alloc (.cells (b.eval (.tmp 61)).cells 51)) (.pointer (some ⟨w.heap.size, 0, none⟩)) := by
  refine ⟨w.heap.size, cs, rfl, hB, ?_, if_pos rfl, hp.go (Gw.tag _ _ _)⟩
  rw [eval_tmp, e61]
  exact Go.Deep.blk_alloc_new _ _

theorem bits_any (N : Nat) (hN : N ≤ 6400) (w : World) : Calls Ybad.prog 9 #[.int .i64 (N : Int)] w fun e w' => (∃ b l, e = .returned (.slice (some ⟨b, 0, none⟩) l l)) ∧ ∃ o, w' = w.alloc o := by
  have hq : ∃ m : Nat, ((N : Int) + 63) / 64 = (m : Int) ∧ m ≤ 101 := ⟨(N + 63) / 64, by omega, by omega⟩
  obtain ⟨m, hm, hm2⟩ := hq
  obtain ⟨i, hi, hz0, hs, hby⟩ := info_parts info58
  have hr := run_make_row (P := Ybad.prog) 44 58 i _ Ybad.underlying44 hi hz0 hs rfl .i64 .i64 m (by rw [hby]; omega) (by omega) w
  go_enter Ybad.func9, Ybad.ntmps9
  go_wp2_with fail
  go_ret
  exact ⟨⟨_, _, rfl⟩, _, rfl⟩

def mkVal (n wd N1 N2 B : Nat) (i : Nat) (γ : Nat → Nat) (v : Value) (w : World) : Prop :=
  match i with
  | 0 => v = .int .i64 (n : Int)
  | 1 => v = .int .i64 (wd : Int)
  | 2 => True
  | 3 => ∃ p, v = .pointer p
  | 4 => v = .int .i64 (n : Int)
  | 5 => v = .int .i64 (wd : Int)
  | 6 => v = .int .i64 (N1 : Int)
  | 7 => Mk B γ w v 7 58 N1 (.int .u64 0)
  | 8 => v = .int .i64 (n : Int)
  | 9 => v = .int .i64 (wd : Int)
  | 10 => v = .int .i64 (N1 : Int)
  | 11 => Mk B γ w v 11 58 N1 (.int .u64 0)
  | 12 => v = .int .i64 (n : Int)
  | 13 => v = .int .i64 (n : Int)
  | 14 => v = .int .i64 (N2 : Int)
  | 15 => Mk B γ w v 15 21 N2 (.int .i32 0)
  | 16 => v = .int .i64 (n : Int)
  | 17 => v = .int .i64 (n : Int)
  | 18 => v = .int .i64 (N2 : Int)
  | 19 => Mk B γ w v 19 21 N2 (.int .i32 0)
  | 20 => v = .int .i64 (n : Int)
  | 21 => v = .int .i64 (n : Int)
  | 22 => v = .int .i64 (N2 : Int)
  | 23 => Mk B γ w v 23 21 N2 (.int .i32 0)
  | 24 => v = .int .i64 (n : Int)
  | 25 => v = .int .i64 (n : Int)
  | 26 => v = .int .i64 (N2 : Int)
  | 27 => Mk B γ w v 27 38 N2 (.slice none 0 0)
  | 28 => v = .int .i64 (n : Int)
  | 29 => v = .int .i64 (n : Int)
  | 30 => v = .int .i64 (N2 : Int)
  | 31 => ∃ ao l cp, v = .slice ao l cp
  | 32 => v = .int .i64 (n : Int)
  | 33 => v = .int .i64 (n : Int)
  | 34 => v = .int .i64 (N2 : Int)
  | 35 => ∃ ao l cp, v = .slice ao l cp
  | 36 => v = .int .i64 (n : Int)
  | 37 => v = .int .i64 (n : Int)
  | 38 => v = .int .i64 (N2 : Int)
  | 39 => Mk B γ w v 39 47 N2 (.float .f64 0)
  | 40 => v = .int .i64 (n : Int)
  | 41 => v = .int .i64 (n : Int)
  | 42 => v = .int .i64 (N2 : Int)
  | 43 => Mk B γ w v 43 21 N2 (.int .i32 0)
  | 44 => v = .int .i64 (n : Int)
  | 45 => v = .int .i64 (n : Int)
  | 46 => v = .int .i64 (N2 : Int)
  | 47 => ∃ ao l cp, v = .slice ao l cp
  | 48 => v = .int .i64 (n : Int)
  | 49 => v = .int .i64 (n : Int)
  | 50 => v = .int .i64 (N2 : Int)
  | 51 => ∃ ao l cp, v = .slice ao l cp
  | 52 => ∃ cs, v = .agg cs ∧ Parts n wd N1 N2 B γ w cs
  | 53 => Boxed n wd N1 N2 B γ w v
  | 54 => Boxed n wd N1 N2 B γ w v
  | _ => True

theorem mkVal_go (n wd N1 N2 B : Nat) : ∀ i γ v w γ' w', Gw γ w γ' w' → mkVal n wd N1 N2 B i γ v w → mkVal n wd N1 N2 B i γ' v w' := by
  intro i γ v w γ' w' hg h
  unfold mkVal at *
  split at h <;> first | exact h | exact Mk.go h hg | exact Boxed.go h hg | (obtain ⟨cs, h1, h2⟩ := h; exact ⟨cs, h1, h2.go hg⟩)

/-- A region of a function's text, by its number. -/
def reg (n : Nat) : Code → Option Code
  | .region i ops d => if i = n then some (.region i ops d) else none
  | .block _ c => reg n c
  | .seq a b => match reg n a with | some c => some c | none => reg n b
  | .cond _ a b => match reg n a with | some c => some c | none => reg n b
  | .loop c => reg n c
  | .scope c => reg n c
  | _ => none

set_option maxRecDepth 100000 in
set_option maxHeartbeats 4000000 in
theorem new_region {Q : Exit → Act → World → Prop} (n wd N1 N2 : Nat) (f : Act) (w : World) (hN1 : (n : Int) * (wd : Int) = (N1 : Int)) (hN2 : (n : Int) * (n : Int) = (N2 : Int)) (hb1 : N1 ≤ 160) (hb2 : N2 ≤ 6400)
    (hsz : f.tmps.size = 79) (ht0 : f.tmps[0]?.getD undef = .int .i64 (n : Int)) (ht3 : f.tmps[3]?.getD undef = .int .i64 (wd : Int)) (hds : f.defers = [])
    (hend : ∀ f' w' v γ, f'.tmps.size = 79 → f'.defers = [] → f'.tmps[4]?.getD undef = v → Boxed n wd N1 N2 w.heap.size γ w' v → Keeps (fun _ => False) w w' → Q .normal f' w') :
    Code.wp Ybad.prog ((Ybad.f5.body.bind (reg 2)).getD .skip) Q f w := by
  conv => arg 2; whnf
  refine wp_region_ops (N := 79) (by kernel_rfl) (by kernel_rfl) (mkVal n wd N1 N2 w.heap.size) (fun _ _ wx => Keeps (fun _ => False) w wx) Gw (fun _ => 0) (mkVal_go n wd N1 N2 w.heap.size) hsz (Keeps.refl _ _).drew ?_ ?_
  · generalize hB : w.heap.size = B
    intro i o hi listed γ b wx hcl hls hun hpre hR hG
    have hGs := hG.size
    rw [hB] at hGs
    match i, hi with
    | 0, hi =>
      simp only [List.getElem?_toArray, List.getElem?_cons_zero, List.getElem?_cons_succ, Option.some.injEq] at hi
      subst hi
      have e0 : b.tmps[0]?.getD undef = .int .i64 (n : Int) := (hR.old (by decide)).trans ht0
      exact wp_of_value (v := .int .i64 (n : Int)) (w' := wx) (by go_simp) ⟨_, γ, rfl, hG, Gw.refl _ _, by simp, rfl⟩
    | 1, hi =>
      simp only [List.getElem?_toArray, List.getElem?_cons_zero, List.getElem?_cons_succ, Option.some.injEq] at hi
      subst hi
      have e3 : b.tmps[3]?.getD undef = .int .i64 (wd : Int) := (hR.old (by decide)).trans ht3
      exact wp_of_value (v := .int .i64 (wd : Int)) (w' := wx) (by go_simp) ⟨_, γ, rfl, hG, Gw.refl _ _, by simp, rfl⟩
    | 2, hi =>
      simp only [List.getElem?_toArray, List.getElem?_cons_zero, List.getElem?_cons_succ, Option.some.injEq] at hi
      subst hi
      exact wp_of_value (v := .agg ((Ybad.prog.built 42 []).getD #[])) (w' := wx) (by simp only [execOp, Sem.run_bind]; rw [run_build (P := Ybad.prog) wx 42 _ ((Ybad.prog.built 42 []).getD #[]) (by kernel_rfl)]; rfl) ⟨_, γ, rfl, hG, Gw.refl _ _, by simp, trivial⟩
    | 3, hi =>
      simp only [List.getElem?_toArray, List.getElem?_cons_zero, List.getElem?_cons_succ, Option.some.injEq] at hi
      subst hi
      exact wp_of_value (v := .pointer (some ⟨wx.heap.size, 0, none⟩)) (w' := wx.alloc (.cells (b.eval (.tmp 11)).cells 42)) (run_box _ _ _ _ _ rfl) ⟨_, γ, rfl, hG.alloc _, Gw.alloc _ _, by simp, _, rfl⟩
    | 4, hi =>
      simp only [List.getElem?_toArray, List.getElem?_cons_zero, List.getElem?_cons_succ, Option.some.injEq] at hi
      subst hi
      have e0 : b.tmps[0]?.getD undef = .int .i64 (n : Int) := (hR.old (by decide)).trans ht0
      exact wp_of_value (v := .int .i64 (n : Int)) (w' := wx) (by go_simp) ⟨_, γ, rfl, hG, Gw.refl _ _, by simp, rfl⟩
    | 5, hi =>
      simp only [List.getElem?_toArray, List.getElem?_cons_zero, List.getElem?_cons_succ, Option.some.injEq] at hi
      subst hi
      have e3 : b.tmps[3]?.getD undef = .int .i64 (wd : Int) := (hR.old (by decide)).trans ht3
      exact wp_of_value (v := .int .i64 (wd : Int)) (w' := wx) (by go_simp) ⟨_, γ, rfl, hG, Gw.refl _ _, by simp, rfl⟩
    | 6, hi =>
      simp only [List.getElem?_toArray, List.getElem?_cons_zero, List.getElem?_cons_succ, Option.some.injEq] at hi
      subst hi
      have e13 : (b.tmps[13]?.getD undef) = .int .i64 (n : Int) := hR.at (j := 4) rfl (hpre ⟨4, .data⟩ (by simp) rfl)
      have e14 : (b.tmps[14]?.getD undef) = .int .i64 (wd : Int) := hR.at (j := 5) rfl (hpre ⟨5, .data⟩ (by simp) rfl)
      exact wp_of_value (v := .int .i64 (N1 : Int)) (w' := wx) (by go_simp; exact wrap_small _ (by omega) (by omega)) ⟨_, γ, rfl, hG, Gw.refl _ _, by simp, rfl⟩
    | 7, hi =>
      simp only [List.getElem?_toArray, List.getElem?_cons_zero, List.getElem?_cons_succ, Option.some.injEq] at hi
      subst hi
      have e15 : (b.tmps[15]?.getD undef) = .int .i64 (N1 : Int) := hR.at (j := 6) rfl (hpre ⟨6, .data⟩ (by simp) rfl)
      exact wp_of_value (v := .slice (some ⟨wx.heap.size, 0, none⟩) N1 N1) (w' := wx.alloc (.cells (madeCells #[.int .u64 0] N1) 58)) (run_mk info58 Ybad.underlying43 (by omega) (by omega) rfl rfl e15 e15 wx) ⟨_, fun k => if k = wx.heap.size then 7 else γ k, rfl, hG.alloc _, Gw.tag _ _ _, by simp, Mk.made hGs _ _ _ _⟩
    | 8, hi =>
      simp only [List.getElem?_toArray, List.getElem?_cons_zero, List.getElem?_cons_succ, Option.some.injEq] at hi
      subst hi
      have e0 : b.tmps[0]?.getD undef = .int .i64 (n : Int) := (hR.old (by decide)).trans ht0
      exact wp_of_value (v := .int .i64 (n : Int)) (w' := wx) (by go_simp) ⟨_, γ, rfl, hG, Gw.refl _ _, by simp, rfl⟩
    | 9, hi =>
      simp only [List.getElem?_toArray, List.getElem?_cons_zero, List.getElem?_cons_succ, Option.some.injEq] at hi
      subst hi
      have e3 : b.tmps[3]?.getD undef = .int .i64 (wd : Int) := (hR.old (by decide)).trans ht3
      exact wp_of_value (v := .int .i64 (wd : Int)) (w' := wx) (by go_simp) ⟨_, γ, rfl, hG, Gw.refl _ _, by simp, rfl⟩
    | 10, hi =>
      simp only [List.getElem?_toArray, List.getElem?_cons_zero, List.getElem?_cons_succ, Option.some.injEq] at hi
      subst hi
      have e17 : (b.tmps[17]?.getD undef) = .int .i64 (n : Int) := hR.at (j := 8) rfl (hpre ⟨8, .data⟩ (by simp) rfl)
      have e18 : (b.tmps[18]?.getD undef) = .int .i64 (wd : Int) := hR.at (j := 9) rfl (hpre ⟨9, .data⟩ (by simp) rfl)
      exact wp_of_value (v := .int .i64 (N1 : Int)) (w' := wx) (by go_simp; exact wrap_small _ (by omega) (by omega)) ⟨_, γ, rfl, hG, Gw.refl _ _, by simp, rfl⟩
    | 11, hi =>
      simp only [List.getElem?_toArray, List.getElem?_cons_zero, List.getElem?_cons_succ, Option.some.injEq] at hi
      subst hi
      have e19 : (b.tmps[19]?.getD undef) = .int .i64 (N1 : Int) := hR.at (j := 10) rfl (hpre ⟨10, .data⟩ (by simp) rfl)
      exact wp_of_value (v := .slice (some ⟨wx.heap.size, 0, none⟩) N1 N1) (w' := wx.alloc (.cells (madeCells #[.int .u64 0] N1) 58)) (run_mk info58 Ybad.underlying43 (by omega) (by omega) rfl rfl e19 e19 wx) ⟨_, fun k => if k = wx.heap.size then 11 else γ k, rfl, hG.alloc _, Gw.tag _ _ _, by simp, Mk.made hGs _ _ _ _⟩
    | 12, hi =>
      simp only [List.getElem?_toArray, List.getElem?_cons_zero, List.getElem?_cons_succ, Option.some.injEq] at hi
      subst hi
      have e0 : b.tmps[0]?.getD undef = .int .i64 (n : Int) := (hR.old (by decide)).trans ht0
      exact wp_of_value (v := .int .i64 (n : Int)) (w' := wx) (by go_simp) ⟨_, γ, rfl, hG, Gw.refl _ _, by simp, rfl⟩
    | 13, hi =>
      simp only [List.getElem?_toArray, List.getElem?_cons_zero, List.getElem?_cons_succ, Option.some.injEq] at hi
      subst hi
      have e0 : b.tmps[0]?.getD undef = .int .i64 (n : Int) := (hR.old (by decide)).trans ht0
      exact wp_of_value (v := .int .i64 (n : Int)) (w' := wx) (by go_simp) ⟨_, γ, rfl, hG, Gw.refl _ _, by simp, rfl⟩
    | 14, hi =>
      simp only [List.getElem?_toArray, List.getElem?_cons_zero, List.getElem?_cons_succ, Option.some.injEq] at hi
      subst hi
      have e21 : (b.tmps[21]?.getD undef) = .int .i64 (n : Int) := hR.at (j := 12) rfl (hpre ⟨12, .data⟩ (by simp) rfl)
      have e22 : (b.tmps[22]?.getD undef) = .int .i64 (n : Int) := hR.at (j := 13) rfl (hpre ⟨13, .data⟩ (by simp) rfl)
      exact wp_of_value (v := .int .i64 (N2 : Int)) (w' := wx) (by go_simp; exact wrap_small _ (by omega) (by omega)) ⟨_, γ, rfl, hG, Gw.refl _ _, by simp, rfl⟩
    | 15, hi =>
      simp only [List.getElem?_toArray, List.getElem?_cons_zero, List.getElem?_cons_succ, Option.some.injEq] at hi
      subst hi
      have e23 : (b.tmps[23]?.getD undef) = .int .i64 (N2 : Int) := hR.at (j := 14) rfl (hpre ⟨14, .data⟩ (by simp) rfl)
      exact wp_of_value (v := .slice (some ⟨wx.heap.size, 0, none⟩) N2 N2) (w' := wx.alloc (.cells (madeCells #[.int .i32 0] N2) 21)) (run_mk info21 Ybad.underlying38 (by omega) (by omega) rfl rfl e23 e23 wx) ⟨_, fun k => if k = wx.heap.size then 15 else γ k, rfl, hG.alloc _, Gw.tag _ _ _, by simp, Mk.made hGs _ _ _ _⟩
    | 16, hi =>
      simp only [List.getElem?_toArray, List.getElem?_cons_zero, List.getElem?_cons_succ, Option.some.injEq] at hi
      subst hi
      have e0 : b.tmps[0]?.getD undef = .int .i64 (n : Int) := (hR.old (by decide)).trans ht0
      exact wp_of_value (v := .int .i64 (n : Int)) (w' := wx) (by go_simp) ⟨_, γ, rfl, hG, Gw.refl _ _, by simp, rfl⟩
    | 17, hi =>
      simp only [List.getElem?_toArray, List.getElem?_cons_zero, List.getElem?_cons_succ, Option.some.injEq] at hi
      subst hi
      have e0 : b.tmps[0]?.getD undef = .int .i64 (n : Int) := (hR.old (by decide)).trans ht0
      exact wp_of_value (v := .int .i64 (n : Int)) (w' := wx) (by go_simp) ⟨_, γ, rfl, hG, Gw.refl _ _, by simp, rfl⟩
    | 18, hi =>
      simp only [List.getElem?_toArray, List.getElem?_cons_zero, List.getElem?_cons_succ, Option.some.injEq] at hi
      subst hi
      have e25 : (b.tmps[25]?.getD undef) = .int .i64 (n : Int) := hR.at (j := 16) rfl (hpre ⟨16, .data⟩ (by simp) rfl)
      have e26 : (b.tmps[26]?.getD undef) = .int .i64 (n : Int) := hR.at (j := 17) rfl (hpre ⟨17, .data⟩ (by simp) rfl)
      exact wp_of_value (v := .int .i64 (N2 : Int)) (w' := wx) (by go_simp; exact wrap_small _ (by omega) (by omega)) ⟨_, γ, rfl, hG, Gw.refl _ _, by simp, rfl⟩
    | 19, hi =>
      simp only [List.getElem?_toArray, List.getElem?_cons_zero, List.getElem?_cons_succ, Option.some.injEq] at hi
      subst hi
      have e27 : (b.tmps[27]?.getD undef) = .int .i64 (N2 : Int) := hR.at (j := 18) rfl (hpre ⟨18, .data⟩ (by simp) rfl)
      exact wp_of_value (v := .slice (some ⟨wx.heap.size, 0, none⟩) N2 N2) (w' := wx.alloc (.cells (madeCells #[.int .i32 0] N2) 21)) (run_mk info21 Ybad.underlying38 (by omega) (by omega) rfl rfl e27 e27 wx) ⟨_, fun k => if k = wx.heap.size then 19 else γ k, rfl, hG.alloc _, Gw.tag _ _ _, by simp, Mk.made hGs _ _ _ _⟩
    | 20, hi =>
      simp only [List.getElem?_toArray, List.getElem?_cons_zero, List.getElem?_cons_succ, Option.some.injEq] at hi
      subst hi
      have e0 : b.tmps[0]?.getD undef = .int .i64 (n : Int) := (hR.old (by decide)).trans ht0
      exact wp_of_value (v := .int .i64 (n : Int)) (w' := wx) (by go_simp) ⟨_, γ, rfl, hG, Gw.refl _ _, by simp, rfl⟩
    | 21, hi =>
      simp only [List.getElem?_toArray, List.getElem?_cons_zero, List.getElem?_cons_succ, Option.some.injEq] at hi
      subst hi
      have e0 : b.tmps[0]?.getD undef = .int .i64 (n : Int) := (hR.old (by decide)).trans ht0
      exact wp_of_value (v := .int .i64 (n : Int)) (w' := wx) (by go_simp) ⟨_, γ, rfl, hG, Gw.refl _ _, by simp, rfl⟩
    | 22, hi =>
      simp only [List.getElem?_toArray, List.getElem?_cons_zero, List.getElem?_cons_succ, Option.some.injEq] at hi
      subst hi
      have e29 : (b.tmps[29]?.getD undef) = .int .i64 (n : Int) := hR.at (j := 20) rfl (hpre ⟨20, .data⟩ (by simp) rfl)
      have e30 : (b.tmps[30]?.getD undef) = .int .i64 (n : Int) := hR.at (j := 21) rfl (hpre ⟨21, .data⟩ (by simp) rfl)
      exact wp_of_value (v := .int .i64 (N2 : Int)) (w' := wx) (by go_simp; exact wrap_small _ (by omega) (by omega)) ⟨_, γ, rfl, hG, Gw.refl _ _, by simp, rfl⟩
    | 23, hi =>
      simp only [List.getElem?_toArray, List.getElem?_cons_zero, List.getElem?_cons_succ, Option.some.injEq] at hi
      subst hi
      have e31 : (b.tmps[31]?.getD undef) = .int .i64 (N2 : Int) := hR.at (j := 22) rfl (hpre ⟨22, .data⟩ (by simp) rfl)
      exact wp_of_value (v := .slice (some ⟨wx.heap.size, 0, none⟩) N2 N2) (w' := wx.alloc (.cells (madeCells #[.int .i32 0] N2) 21)) (run_mk info21 Ybad.underlying38 (by omega) (by omega) rfl rfl e31 e31 wx) ⟨_, fun k => if k = wx.heap.size then 23 else γ k, rfl, hG.alloc _, Gw.tag _ _ _, by simp, Mk.made hGs _ _ _ _⟩
    | 24, hi =>
      simp only [List.getElem?_toArray, List.getElem?_cons_zero, List.getElem?_cons_succ, Option.some.injEq] at hi
      subst hi
      have e0 : b.tmps[0]?.getD undef = .int .i64 (n : Int) := (hR.old (by decide)).trans ht0
      exact wp_of_value (v := .int .i64 (n : Int)) (w' := wx) (by go_simp) ⟨_, γ, rfl, hG, Gw.refl _ _, by simp, rfl⟩
    | 25, hi =>
      simp only [List.getElem?_toArray, List.getElem?_cons_zero, List.getElem?_cons_succ, Option.some.injEq] at hi
      subst hi
      have e0 : b.tmps[0]?.getD undef = .int .i64 (n : Int) := (hR.old (by decide)).trans ht0
      exact wp_of_value (v := .int .i64 (n : Int)) (w' := wx) (by go_simp) ⟨_, γ, rfl, hG, Gw.refl _ _, by simp, rfl⟩
    | 26, hi =>
      simp only [List.getElem?_toArray, List.getElem?_cons_zero, List.getElem?_cons_succ, Option.some.injEq] at hi
      subst hi
      have e33 : (b.tmps[33]?.getD undef) = .int .i64 (n : Int) := hR.at (j := 24) rfl (hpre ⟨24, .data⟩ (by simp) rfl)
      have e34 : (b.tmps[34]?.getD undef) = .int .i64 (n : Int) := hR.at (j := 25) rfl (hpre ⟨25, .data⟩ (by simp) rfl)
      exact wp_of_value (v := .int .i64 (N2 : Int)) (w' := wx) (by go_simp; exact wrap_small _ (by omega) (by omega)) ⟨_, γ, rfl, hG, Gw.refl _ _, by simp, rfl⟩
    | 27, hi =>
      simp only [List.getElem?_toArray, List.getElem?_cons_zero, List.getElem?_cons_succ, Option.some.injEq] at hi
      subst hi
      have e35 : (b.tmps[35]?.getD undef) = .int .i64 (N2 : Int) := hR.at (j := 26) rfl (hpre ⟨26, .data⟩ (by simp) rfl)
      exact wp_of_value (v := .slice (some ⟨wx.heap.size, 0, none⟩) N2 N2) (w' := wx.alloc (.cells (madeCells #[.slice none 0 0] N2) 38)) (run_mk info38 Ybad.underlying26 (by omega) (by omega) rfl rfl e35 e35 wx) ⟨_, fun k => if k = wx.heap.size then 27 else γ k, rfl, hG.alloc _, Gw.tag _ _ _, by simp, Mk.made hGs _ _ _ _⟩
    | 28, hi =>
      simp only [List.getElem?_toArray, List.getElem?_cons_zero, List.getElem?_cons_succ, Option.some.injEq] at hi
      subst hi
      have e0 : b.tmps[0]?.getD undef = .int .i64 (n : Int) := (hR.old (by decide)).trans ht0
      exact wp_of_value (v := .int .i64 (n : Int)) (w' := wx) (by go_simp) ⟨_, γ, rfl, hG, Gw.refl _ _, by simp, rfl⟩
    | 29, hi =>
      simp only [List.getElem?_toArray, List.getElem?_cons_zero, List.getElem?_cons_succ, Option.some.injEq] at hi
      subst hi
      have e0 : b.tmps[0]?.getD undef = .int .i64 (n : Int) := (hR.old (by decide)).trans ht0
      exact wp_of_value (v := .int .i64 (n : Int)) (w' := wx) (by go_simp) ⟨_, γ, rfl, hG, Gw.refl _ _, by simp, rfl⟩
    | 30, hi =>
      simp only [List.getElem?_toArray, List.getElem?_cons_zero, List.getElem?_cons_succ, Option.some.injEq] at hi
      subst hi
      have e37 : (b.tmps[37]?.getD undef) = .int .i64 (n : Int) := hR.at (j := 28) rfl (hpre ⟨28, .data⟩ (by simp) rfl)
      have e38 : (b.tmps[38]?.getD undef) = .int .i64 (n : Int) := hR.at (j := 29) rfl (hpre ⟨29, .data⟩ (by simp) rfl)
      exact wp_of_value (v := .int .i64 (N2 : Int)) (w' := wx) (by go_simp; exact wrap_small _ (by omega) (by omega)) ⟨_, γ, rfl, hG, Gw.refl _ _, by simp, rfl⟩
    | 31, hi =>
      simp only [List.getElem?_toArray, List.getElem?_cons_zero, List.getElem?_cons_succ, Option.some.injEq] at hi
      subst hi
      have e39 : (b.tmps[39]?.getD undef) = .int .i64 (N2 : Int) := hR.at (j := 30) rfl (hpre ⟨30, .data⟩ (by simp) rfl)
      refine wp_of_call (w1 := wx) (f := 9) (args := #[.int .i64 (N2 : Int)]) (by go_simp) ?_
      refine (bits_any N2 hb2 wx).mono ?_
      rintro e w' ⟨⟨bb, l, rfl⟩, o, rfl⟩
      exact ⟨_, rfl, _, γ, rfl, hG.alloc _, Gw.alloc _ _, by simp, _, _, _, rfl⟩
    | 32, hi =>
      simp only [List.getElem?_toArray, List.getElem?_cons_zero, List.getElem?_cons_succ, Option.some.injEq] at hi
      subst hi
      have e0 : b.tmps[0]?.getD undef = .int .i64 (n : Int) := (hR.old (by decide)).trans ht0
      exact wp_of_value (v := .int .i64 (n : Int)) (w' := wx) (by go_simp) ⟨_, γ, rfl, hG, Gw.refl _ _, by simp, rfl⟩
    | 33, hi =>
      simp only [List.getElem?_toArray, List.getElem?_cons_zero, List.getElem?_cons_succ, Option.some.injEq] at hi
      subst hi
      have e0 : b.tmps[0]?.getD undef = .int .i64 (n : Int) := (hR.old (by decide)).trans ht0
      exact wp_of_value (v := .int .i64 (n : Int)) (w' := wx) (by go_simp) ⟨_, γ, rfl, hG, Gw.refl _ _, by simp, rfl⟩
    | 34, hi =>
      simp only [List.getElem?_toArray, List.getElem?_cons_zero, List.getElem?_cons_succ, Option.some.injEq] at hi
      subst hi
      have e41 : (b.tmps[41]?.getD undef) = .int .i64 (n : Int) := hR.at (j := 32) rfl (hpre ⟨32, .data⟩ (by simp) rfl)
      have e42 : (b.tmps[42]?.getD undef) = .int .i64 (n : Int) := hR.at (j := 33) rfl (hpre ⟨33, .data⟩ (by simp) rfl)
      exact wp_of_value (v := .int .i64 (N2 : Int)) (w' := wx) (by go_simp; exact wrap_small _ (by omega) (by omega)) ⟨_, γ, rfl, hG, Gw.refl _ _, by simp, rfl⟩
    | 35, hi =>
      simp only [List.getElem?_toArray, List.getElem?_cons_zero, List.getElem?_cons_succ, Option.some.injEq] at hi
      subst hi
      have e43 : (b.tmps[43]?.getD undef) = .int .i64 (N2 : Int) := hR.at (j := 34) rfl (hpre ⟨34, .data⟩ (by simp) rfl)
      refine wp_of_call (w1 := wx) (f := 9) (args := #[.int .i64 (N2 : Int)]) (by go_simp) ?_
      refine (bits_any N2 hb2 wx).mono ?_
      rintro e w' ⟨⟨bb, l, rfl⟩, o, rfl⟩
      exact ⟨_, rfl, _, γ, rfl, hG.alloc _, Gw.alloc _ _, by simp, _, _, _, rfl⟩
    | 36, hi =>
      simp only [List.getElem?_toArray, List.getElem?_cons_zero, List.getElem?_cons_succ, Option.some.injEq] at hi
      subst hi
      have e0 : b.tmps[0]?.getD undef = .int .i64 (n : Int) := (hR.old (by decide)).trans ht0
      exact wp_of_value (v := .int .i64 (n : Int)) (w' := wx) (by go_simp) ⟨_, γ, rfl, hG, Gw.refl _ _, by simp, rfl⟩
    | 37, hi =>
      simp only [List.getElem?_toArray, List.getElem?_cons_zero, List.getElem?_cons_succ, Option.some.injEq] at hi
      subst hi
      have e0 : b.tmps[0]?.getD undef = .int .i64 (n : Int) := (hR.old (by decide)).trans ht0
      exact wp_of_value (v := .int .i64 (n : Int)) (w' := wx) (by go_simp) ⟨_, γ, rfl, hG, Gw.refl _ _, by simp, rfl⟩
    | 38, hi =>
      simp only [List.getElem?_toArray, List.getElem?_cons_zero, List.getElem?_cons_succ, Option.some.injEq] at hi
      subst hi
      have e45 : (b.tmps[45]?.getD undef) = .int .i64 (n : Int) := hR.at (j := 36) rfl (hpre ⟨36, .data⟩ (by simp) rfl)
      have e46 : (b.tmps[46]?.getD undef) = .int .i64 (n : Int) := hR.at (j := 37) rfl (hpre ⟨37, .data⟩ (by simp) rfl)
      exact wp_of_value (v := .int .i64 (N2 : Int)) (w' := wx) (by go_simp; exact wrap_small _ (by omega) (by omega)) ⟨_, γ, rfl, hG, Gw.refl _ _, by simp, rfl⟩
    | 39, hi =>
      simp only [List.getElem?_toArray, List.getElem?_cons_zero, List.getElem?_cons_succ, Option.some.injEq] at hi
      subst hi
      have e47 : (b.tmps[47]?.getD undef) = .int .i64 (N2 : Int) := hR.at (j := 38) rfl (hpre ⟨38, .data⟩ (by simp) rfl)
      exact wp_of_value (v := .slice (some ⟨wx.heap.size, 0, none⟩) N2 N2) (w' := wx.alloc (.cells (madeCells #[.float .f64 0] N2) 47)) (run_mk info47 Ybad.underlying46 (by omega) (by omega) rfl rfl e47 e47 wx) ⟨_, fun k => if k = wx.heap.size then 39 else γ k, rfl, hG.alloc _, Gw.tag _ _ _, by simp, Mk.made hGs _ _ _ _⟩
    | 40, hi =>
      simp only [List.getElem?_toArray, List.getElem?_cons_zero, List.getElem?_cons_succ, Option.some.injEq] at hi
      subst hi
      have e0 : b.tmps[0]?.getD undef = .int .i64 (n : Int) := (hR.old (by decide)).trans ht0
      exact wp_of_value (v := .int .i64 (n : Int)) (w' := wx) (by go_simp) ⟨_, γ, rfl, hG, Gw.refl _ _, by simp, rfl⟩
    | 41, hi =>
      simp only [List.getElem?_toArray, List.getElem?_cons_zero, List.getElem?_cons_succ, Option.some.injEq] at hi
      subst hi
      have e0 : b.tmps[0]?.getD undef = .int .i64 (n : Int) := (hR.old (by decide)).trans ht0
      exact wp_of_value (v := .int .i64 (n : Int)) (w' := wx) (by go_simp) ⟨_, γ, rfl, hG, Gw.refl _ _, by simp, rfl⟩
    | 42, hi =>
      simp only [List.getElem?_toArray, List.getElem?_cons_zero, List.getElem?_cons_succ, Option.some.injEq] at hi
      subst hi
      have e49 : (b.tmps[49]?.getD undef) = .int .i64 (n : Int) := hR.at (j := 40) rfl (hpre ⟨40, .data⟩ (by simp) rfl)
      have e50 : (b.tmps[50]?.getD undef) = .int .i64 (n : Int) := hR.at (j := 41) rfl (hpre ⟨41, .data⟩ (by simp) rfl)
      exact wp_of_value (v := .int .i64 (N2 : Int)) (w' := wx) (by go_simp; exact wrap_small _ (by omega) (by omega)) ⟨_, γ, rfl, hG, Gw.refl _ _, by simp, rfl⟩
    | 43, hi =>
      simp only [List.getElem?_toArray, List.getElem?_cons_zero, List.getElem?_cons_succ, Option.some.injEq] at hi
      subst hi
      have e51 : (b.tmps[51]?.getD undef) = .int .i64 (N2 : Int) := hR.at (j := 42) rfl (hpre ⟨42, .data⟩ (by simp) rfl)
      exact wp_of_value (v := .slice (some ⟨wx.heap.size, 0, none⟩) N2 N2) (w' := wx.alloc (.cells (madeCells #[.int .i32 0] N2) 21)) (run_mk info21 Ybad.underlying38 (by omega) (by omega) rfl rfl e51 e51 wx) ⟨_, fun k => if k = wx.heap.size then 43 else γ k, rfl, hG.alloc _, Gw.tag _ _ _, by simp, Mk.made hGs _ _ _ _⟩
    | 44, hi =>
      simp only [List.getElem?_toArray, List.getElem?_cons_zero, List.getElem?_cons_succ, Option.some.injEq] at hi
      subst hi
      have e0 : b.tmps[0]?.getD undef = .int .i64 (n : Int) := (hR.old (by decide)).trans ht0
      exact wp_of_value (v := .int .i64 (n : Int)) (w' := wx) (by go_simp) ⟨_, γ, rfl, hG, Gw.refl _ _, by simp, rfl⟩
    | 45, hi =>
      simp only [List.getElem?_toArray, List.getElem?_cons_zero, List.getElem?_cons_succ, Option.some.injEq] at hi
      subst hi
      have e0 : b.tmps[0]?.getD undef = .int .i64 (n : Int) := (hR.old (by decide)).trans ht0
      exact wp_of_value (v := .int .i64 (n : Int)) (w' := wx) (by go_simp) ⟨_, γ, rfl, hG, Gw.refl _ _, by simp, rfl⟩
    | 46, hi =>
      simp only [List.getElem?_toArray, List.getElem?_cons_zero, List.getElem?_cons_succ, Option.some.injEq] at hi
      subst hi
      have e53 : (b.tmps[53]?.getD undef) = .int .i64 (n : Int) := hR.at (j := 44) rfl (hpre ⟨44, .data⟩ (by simp) rfl)
      have e54 : (b.tmps[54]?.getD undef) = .int .i64 (n : Int) := hR.at (j := 45) rfl (hpre ⟨45, .data⟩ (by simp) rfl)
      exact wp_of_value (v := .int .i64 (N2 : Int)) (w' := wx) (by go_simp; exact wrap_small _ (by omega) (by omega)) ⟨_, γ, rfl, hG, Gw.refl _ _, by simp, rfl⟩
    | 47, hi =>
      simp only [List.getElem?_toArray, List.getElem?_cons_zero, List.getElem?_cons_succ, Option.some.injEq] at hi
      subst hi
      have e55 : (b.tmps[55]?.getD undef) = .int .i64 (N2 : Int) := hR.at (j := 46) rfl (hpre ⟨46, .data⟩ (by simp) rfl)
      refine wp_of_call (w1 := wx) (f := 9) (args := #[.int .i64 (N2 : Int)]) (by go_simp) ?_
      refine (bits_any N2 hb2 wx).mono ?_
      rintro e w' ⟨⟨bb, l, rfl⟩, o, rfl⟩
      exact ⟨_, rfl, _, γ, rfl, hG.alloc _, Gw.alloc _ _, by simp, _, _, _, rfl⟩
    | 48, hi =>
      simp only [List.getElem?_toArray, List.getElem?_cons_zero, List.getElem?_cons_succ, Option.some.injEq] at hi
      subst hi
      have e0 : b.tmps[0]?.getD undef = .int .i64 (n : Int) := (hR.old (by decide)).trans ht0
      exact wp_of_value (v := .int .i64 (n : Int)) (w' := wx) (by go_simp) ⟨_, γ, rfl, hG, Gw.refl _ _, by simp, rfl⟩
    | 49, hi =>
      simp only [List.getElem?_toArray, List.getElem?_cons_zero, List.getElem?_cons_succ, Option.some.injEq] at hi
      subst hi
      have e0 : b.tmps[0]?.getD undef = .int .i64 (n : Int) := (hR.old (by decide)).trans ht0
      exact wp_of_value (v := .int .i64 (n : Int)) (w' := wx) (by go_simp) ⟨_, γ, rfl, hG, Gw.refl _ _, by simp, rfl⟩
    | 50, hi =>
      simp only [List.getElem?_toArray, List.getElem?_cons_zero, List.getElem?_cons_succ, Option.some.injEq] at hi
      subst hi
      have e57 : (b.tmps[57]?.getD undef) = .int .i64 (n : Int) := hR.at (j := 48) rfl (hpre ⟨48, .data⟩ (by simp) rfl)
      have e58 : (b.tmps[58]?.getD undef) = .int .i64 (n : Int) := hR.at (j := 49) rfl (hpre ⟨49, .data⟩ (by simp) rfl)
      exact wp_of_value (v := .int .i64 (N2 : Int)) (w' := wx) (by go_simp; exact wrap_small _ (by omega) (by omega)) ⟨_, γ, rfl, hG, Gw.refl _ _, by simp, rfl⟩
    | 51, hi =>
      simp only [List.getElem?_toArray, List.getElem?_cons_zero, List.getElem?_cons_succ, Option.some.injEq] at hi
      subst hi
      have e59 : (b.tmps[59]?.getD undef) = .int .i64 (N2 : Int) := hR.at (j := 50) rfl (hpre ⟨50, .data⟩ (by simp) rfl)
      refine wp_of_call (w1 := wx) (f := 9) (args := #[.int .i64 (N2 : Int)]) (by go_simp) ?_
      refine (bits_any N2 hb2 wx).mono ?_
      rintro e w' ⟨⟨bb, l, rfl⟩, o, rfl⟩
      exact ⟨_, rfl, _, γ, rfl, hG.alloc _, Gw.alloc _ _, by simp, _, _, _, rfl⟩
    | 52, hi =>
      simp only [List.getElem?_toArray, List.getElem?_cons_zero, List.getElem?_cons_succ, Option.some.injEq] at hi
      subst hi
      have e9 : b.tmps[9]?.getD undef = .int .i64 (n : Int) := hR.at (j := 0) rfl (hpre ⟨0, .data⟩ (by simp) rfl)
      have e10 : b.tmps[10]?.getD undef = .int .i64 (wd : Int) := hR.at (j := 1) rfl (hpre ⟨1, .data⟩ (by simp) rfl)
      obtain ⟨p, e12⟩ : ∃ p, b.tmps[12]?.getD undef = .pointer p := hR.at (j := 3) rfl (hpre ⟨3, .data⟩ (by simp) rfl)
      obtain ⟨b3, e16, k3⟩ : Mk B γ wx (b.tmps[16]?.getD undef) 7 58 N1 (.int .u64 0) := hR.at (j := 7) rfl (hpre ⟨7, .data⟩ (by simp) rfl)
      obtain ⟨b4, e20, k4⟩ : Mk B γ wx (b.tmps[20]?.getD undef) 11 58 N1 (.int .u64 0) := hR.at (j := 11) rfl (hpre ⟨11, .data⟩ (by simp) rfl)
      obtain ⟨b5, e24, k5⟩ : Mk B γ wx (b.tmps[24]?.getD undef) 15 21 N2 (.int .i32 0) := hR.at (j := 15) rfl (hpre ⟨15, .data⟩ (by simp) rfl)
      obtain ⟨b6, e28, k6⟩ : Mk B γ wx (b.tmps[28]?.getD undef) 19 21 N2 (.int .i32 0) := hR.at (j := 19) rfl (hpre ⟨19, .data⟩ (by simp) rfl)
      obtain ⟨b7, e32, k7⟩ : Mk B γ wx (b.tmps[32]?.getD undef) 23 21 N2 (.int .i32 0) := hR.at (j := 23) rfl (hpre ⟨23, .data⟩ (by simp) rfl)
      obtain ⟨b14, e36, k14⟩ : Mk B γ wx (b.tmps[36]?.getD undef) 27 38 N2 (.slice none 0 0) := hR.at (j := 27) rfl (hpre ⟨27, .data⟩ (by simp) rfl)
      obtain ⟨b28, e52, k28⟩ : Mk B γ wx (b.tmps[52]?.getD undef) 43 21 N2 (.int .i32 0) := hR.at (j := 43) rfl (hpre ⟨43, .data⟩ (by simp) rfl)
      obtain ⟨b25, e48, k25⟩ : Mk B γ wx (b.tmps[48]?.getD undef) 39 47 N2 (.float .f64 0) := hR.at (j := 39) rfl (hpre ⟨39, .data⟩ (by simp) rfl)
      obtain ⟨a19, l19, c19, e40⟩ : ∃ ao l cp, b.tmps[40]?.getD undef = .slice ao l cp := hR.at (j := 31) rfl (hpre ⟨31, .data⟩ (by simp) rfl)
      obtain ⟨a20, l20, c20, e44⟩ : ∃ ao l cp, b.tmps[44]?.getD undef = .slice ao l cp := hR.at (j := 35) rfl (hpre ⟨35, .data⟩ (by simp) rfl)
      obtain ⟨a29, l29, c29, e56⟩ : ∃ ao l cp, b.tmps[56]?.getD undef = .slice ao l cp := hR.at (j := 47) rfl (hpre ⟨47, .data⟩ (by simp) rfl)
      obtain ⟨a30, l30, c30, e60⟩ : ∃ ao l cp, b.tmps[60]?.getD undef = .slice ao l cp := hR.at (j := 51) rfl (hpre ⟨51, .data⟩ (by simp) rfl)
      have hb := built51 (n : Int) (wd : Int) p (some ⟨b3, 0, none⟩) (some ⟨b4, 0, none⟩) (some ⟨b5, 0, none⟩) (some ⟨b6, 0, none⟩) (some ⟨b7, 0, none⟩) (some ⟨b14, 0, none⟩) a19 a20 (some ⟨b25, 0, none⟩) (some ⟨b28, 0, none⟩) a29 a30 N1 N2 l19 l20 N2 l29 l30 c19 c20 N2 c29 c30
      exact wp_of_value (v := .agg _) (w' := wx) (by
        simp only [execOp, Sem.run_bind]
        rw [run_build (P := Ybad.prog) wx 51 _ _ (Eq.trans (by simp only [List.map_toArray, List.map, eval_tmp, eval_const, e9, e10, e12, e16, e20, e24, e28, e32, e36, e40, e44, e48, e52, e56, e60]) hb)]
        rfl) ⟨_, γ, rfl, hG, Gw.refl _ _, by simp, _, rfl, p, b3, b4, b5, b6, b7, b14, b28, _, _, _, _, _, _, _, _, _, _, _, _, _, _, _, rfl, k3, k4, k5, k6, k7, k14, k28⟩
    | 53, hi =>
      simp only [List.getElem?_toArray, List.getElem?_cons_zero, List.getElem?_cons_succ, Option.some.injEq] at hi
      subst hi
      obtain ⟨cs, e61, hp⟩ : ∃ cs, b.tmps[61]?.getD undef = .agg cs ∧ Parts n wd N1 N2 B γ wx cs := hR.at (j := 52) rfl (hpre ⟨52, .data⟩ (by simp) rfl)
      exact wp_of_value (v := .pointer (some ⟨wx.heap.size, 0, none⟩)) (w' := wx.alloc (.cells (b.eval (.tmp 61)).cells 51)) (run_box _ _ _ _ _ rfl) ⟨_, fun k => if k = wx.heap.size then 53 else γ k, rfl, hG.alloc _, Gw.tag _ _ _, by simp, Boxed.made hGs e61 hp⟩
    | 54, hi =>
      simp only [List.getElem?_toArray, List.getElem?_cons_zero, List.getElem?_cons_succ, Option.some.injEq] at hi
      subst hi
      have e62 : Boxed n wd N1 N2 B γ wx (b.tmps[62]?.getD undef) := hR.at (j := 53) rfl (hpre ⟨53, .data⟩ (by simp) rfl)
      exact wp_of_value (v := b.tmps[62]?.getD undef) (w' := wx) (by go_simp) ⟨_, γ, rfl, hG, Gw.refl _ _, by simp, e62⟩
    | _ + 55, hi => simp at hi
  · intro listed γ b wx hall hR hG
    have h54 := hR.at (j := 54) (d := 4) rfl (hall 54 (by decide))
    exact hend _ _ _ γ hR.size (hR.ds.trans hds) rfl h54 hG
end Go.Proofs.YbulkbnbgDoor.Pr
