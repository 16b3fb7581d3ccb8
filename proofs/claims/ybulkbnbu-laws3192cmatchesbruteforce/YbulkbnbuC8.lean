/-
  The curve's 'add' (function 12): its other drawn regions, on.
-/
import Derived.Test.YbulkbnbuC6
namespace Go.Proofs.Ybulkbnbu.Kn
set_option linter.unusedSimpArgs false
set_option linter.unusedVariables false
open Go.ChangeShapes Go.WideShapes Go.ChangeAt Go.RowKit
open Go.Proofs.Ybulkbnbu.Fl Go.Proofs.Ybulkbnbu.Pl
attribute [local go_sem] run_store_float
structure G8 (B cb room left gw nw cw gf m cF : Nat) (x y s v t k : Value) (fr : List Nat) (w : World) (a b : Bool) (γ : Option (Nat × Nat)) (wx : World) : Prop where
  keeps : Keeps (fun j => j = cb ∨ j = gf) w wx
  before : a = false → γ = none ∧ wx.ownsRow B 3 1 (.slice (some ⟨gf, 0, none⟩) m cF) m (ints fr)
  after : ∀ gg cap, γ = some (gg, cap) → wx.ownsRow B 3 1 (.slice (some ⟨gg, 0, none⟩) (m + 1) cap) (m + 1) (ints (fr ++ [nw])) ∧ (gg = gf ∨ w.heap.size ≤ gg)
  row : b = false → wx.rowIs cb 59 11 (cvF room left (x) (y) (s) (v) (.slice (some ⟨gw, 0, none⟩) nw cw) (.slice (some ⟨gf, 0, none⟩) m cF) (t) (k))
  shut : b = true → ∃ gg cap, γ = some (gg, cap) ∧ wx.rowIs cb 59 11 (cvF room left (x) (y) (s) (v) (.slice (some ⟨gw, 0, none⟩) nw cw) (.slice (some ⟨gg, 0, none⟩) (m + 1) cap) (t) (k))

set_option maxRecDepth 100000 in
set_option maxHeartbeats 8000000 in
theorem c8 {Q : Exit → Act → World → Prop} (B cb room left gw nw cw gf m cF : Nat) (x y s v t k : Value) (fr : List Nat) (f : Act) (w : World) (hsz : f.tmps.size = 191) (hds : f.defers = [])
    (ht0 : f.tmps[0]?.getD undef = .pointer (some ⟨cb, 0, none⟩)) (hr : w.rowIs cb 59 11 (cvF room left (x) (y) (s) (v) (.slice (some ⟨gw, 0, none⟩) nw cw) (.slice (some ⟨gf, 0, none⟩) m cF) (t) (k))) (hF : w.ownsRow B 3 1 (.slice (some ⟨gf, 0, none⟩) m cF) m (ints fr)) (hB : B ≤ w.heap.size) (hm : m ≤ 1000)
    (hend : ∀ f' w' gg cap, f'.tmps.size = 191 → f'.defers = [] → (∀ t, t < 67 → f'.tmps[t]?.getD undef = f.tmps[t]?.getD undef) → w'.rowIs cb 59 11 (cvF room left (x) (y) (s) (v) (.slice (some ⟨gw, 0, none⟩) nw cw) (.slice (some ⟨gg, 0, none⟩) (m + 1) cap) (t) (k)) → w'.ownsRow B 3 1 (.slice (some ⟨gg, 0, none⟩) (m + 1) cap) (m + 1) (ints (fr ++ [nw])) → (gg = gf ∨ w.heap.size ≤ gg) → Keeps (fun j => j = cb ∨ j = gf) w w' → Q .normal f' w') :
    Code.wp Yba.prog ((Yba.f12.body.bind (reg 8)).getD .skip) Q f w := by
  conv => arg 2; whnf
  have lcb := hr.lt
  obtain ⟨tc, htc⟩ := row_tag hr
  have ncf : gf ≠ cb := (tag_ne htc (ownsRow_tag hF gf rfl).2.choose_spec (by decide)).symm
  refine ops_lawG (N := 191) f w (by kernel_rfl) hsz hds (fun i γ v wx => match i with
    | 10 => ∃ b, v = .slice (some ⟨b, 0, none⟩) 1 1 ∧ w.heap.size ≤ b ∧ b < wx.heap.size ∧ wx.heap[b]? = some (.cells #[.int .i64 (nw : Int)] 3 (0, 0))
    | 11 => ∃ gg cap, γ = some (gg, cap) ∧ v = .slice (some ⟨gg, 0, none⟩) (m + 1) cap
    | i => v = (fun i => match i with
    | 0 => .pointer (some ⟨cb, 0, none⟩)
    | 1 => .pointer (some ⟨cb, 0, none⟩)
    | 2 => .pointer (some ⟨cb, 0, none⟩)
    | 3 => .pointer (some ⟨cb, 7, none⟩)
    | 4 => .slice (some ⟨gf, 0, none⟩) m cF
    | 5 => .pointer (some ⟨cb, 0, none⟩)
    | 6 => .pointer (some ⟨cb, 0, none⟩)
    | 7 => .pointer (some ⟨cb, 6, none⟩)
    | 8 => .slice (some ⟨gw, 0, none⟩) nw cw
    | 9 => .int .i64 (nw : Int)
    | 12 => .pointer (some ⟨cb, 0, none⟩)
    | 13 => .pointer (some ⟨cb, 7, none⟩)
    | 14 => undef
    | _ => undef : Nat → Value) i) (fun l γ wx => G8 B cb room left gw nw cw gf m cF x y s v t k fr w (l 11) (l 14) γ wx) (Go1 w.heap.size) none ?_ ⟨(Keeps.refl _ _).drew, fun _ => ⟨rfl, hF⟩, fun _ _ h => (by cases h), fun _ => World.rowIs.drew hr, fun h => (by cases h)⟩ ?_ ?_
  · intro i γ v wx γ' wx' hg h
    split at h
    · obtain ⟨b, rfl, h1, h2, h3⟩ := h
      exact ⟨b, rfl, h1, Nat.lt_of_lt_of_le h2 hg.1, (hg.2.1 b h1 h2).trans h3⟩
    · obtain ⟨gg, cap, h1, h2⟩ := h
      exact ⟨gg, cap, hg.2.2 _ h1, h2⟩
    · exact h
  · intro i o hi l γ b wx hun haft hpre hW hold hG
    match i, hi, hun, haft with
    | 0, hi, hun, haft =>
      simp only [List.getElem?_toArray, List.getElem?_cons_zero, List.getElem?_cons_succ, Option.some.injEq] at hi
      subst hi
      have e0 : b.tmps[0]?.getD undef = .pointer (some ⟨cb, 0, none⟩) := (hold 0 (by decide)).trans ht0
      refine wp_of_value (w' := wx) (v := .pointer (some ⟨cb, 0, none⟩)) ?_ ⟨_, γ, rfl, hG, Go1.refl _ _ _, fun h => (by cases h), rfl⟩
      clear hW hold hpre haft hG
      go_simp
    | 1, hi, hun, haft =>
      simp only [List.getElem?_toArray, List.getElem?_cons_zero, List.getElem?_cons_succ, Option.some.injEq] at hi
      subst hi
      have e0 : b.tmps[0]?.getD undef = .pointer (some ⟨cb, 0, none⟩) := (hold 0 (by decide)).trans ht0
      refine wp_of_value (w' := wx) (v := .pointer (some ⟨cb, 0, none⟩)) ?_ ⟨_, γ, rfl, hG, Go1.refl _ _ _, fun h => (by cases h), rfl⟩
      clear hW hold hpre haft hG
      go_simp
    | 2, hi, hun, haft =>
      simp only [List.getElem?_toArray, List.getElem?_cons_zero, List.getElem?_cons_succ, Option.some.injEq] at hi
      subst hi
      have e109 : b.tmps[109]?.getD undef = .pointer (some ⟨cb, 0, none⟩) := hW 1 109 (hpre ⟨1, .data⟩ (by simp) rfl) rfl
      refine wp_of_value (w' := wx) (v := .pointer (some ⟨cb, 0, none⟩)) ?_ ⟨_, γ, rfl, hG, Go1.refl _ _ _, fun h => (by cases h), rfl⟩
      clear hW hold hpre haft hG
      go_simp
    | 3, hi, hun, haft =>
      simp only [List.getElem?_toArray, List.getElem?_cons_zero, List.getElem?_cons_succ, Option.some.injEq] at hi
      subst hi
      have e110 : b.tmps[110]?.getD undef = .pointer (some ⟨cb, 0, none⟩) := hW 2 110 (hpre ⟨2, .data⟩ (by simp) rfl) rfl
      refine wp_of_value (w' := wx) (v := .pointer (some ⟨cb, 7, none⟩)) ?_ ⟨_, γ, rfl, hG, Go1.refl _ _ _, fun h => (by cases h), rfl⟩
      clear hW hold hpre haft hG
      go_simp
    | 4, hi, hun, haft =>
      simp only [List.getElem?_toArray, List.getElem?_cons_zero, List.getElem?_cons_succ, Option.some.injEq] at hi
      subst hi
      have e111 : b.tmps[111]?.getD undef = .pointer (some ⟨cb, 7, none⟩) := hW 3 111 (hpre ⟨3, .data⟩ (by simp) rfl) rfl
      refine wp_of_value (w' := wx) (v := .slice (some ⟨gf, 0, none⟩) m cF) ?_ ⟨_, γ, rfl, hG, Go1.refl _ _ _, fun h => (by cases h), rfl⟩
      have qs : l 14 = false := haft 14 _ rfl ⟨4, .phase⟩ (by simp) rfl rfl
      have k7 : wx.cell? ⟨cb, 7, none⟩ = some (.slice (some ⟨gf, 0, none⟩) m cF) := (hG.row qs).cell (i := 7) (by omega)
      clear hW hold hpre haft hG
      go_simp
    | 5, hi, hun, haft =>
      simp only [List.getElem?_toArray, List.getElem?_cons_zero, List.getElem?_cons_succ, Option.some.injEq] at hi
      subst hi
      have e0 : b.tmps[0]?.getD undef = .pointer (some ⟨cb, 0, none⟩) := (hold 0 (by decide)).trans ht0
      refine wp_of_value (w' := wx) (v := .pointer (some ⟨cb, 0, none⟩)) ?_ ⟨_, γ, rfl, hG, Go1.refl _ _ _, fun h => (by cases h), rfl⟩
      clear hW hold hpre haft hG
      go_simp
    | 6, hi, hun, haft =>
      simp only [List.getElem?_toArray, List.getElem?_cons_zero, List.getElem?_cons_succ, Option.some.injEq] at hi
      subst hi
      have e113 : b.tmps[113]?.getD undef = .pointer (some ⟨cb, 0, none⟩) := hW 5 113 (hpre ⟨5, .data⟩ (by simp) rfl) rfl
      refine wp_of_value (w' := wx) (v := .pointer (some ⟨cb, 0, none⟩)) ?_ ⟨_, γ, rfl, hG, Go1.refl _ _ _, fun h => (by cases h), rfl⟩
      clear hW hold hpre haft hG
      go_simp
    | 7, hi, hun, haft =>
      simp only [List.getElem?_toArray, List.getElem?_cons_zero, List.getElem?_cons_succ, Option.some.injEq] at hi
      subst hi
      have e114 : b.tmps[114]?.getD undef = .pointer (some ⟨cb, 0, none⟩) := hW 6 114 (hpre ⟨6, .data⟩ (by simp) rfl) rfl
      refine wp_of_value (w' := wx) (v := .pointer (some ⟨cb, 6, none⟩)) ?_ ⟨_, γ, rfl, hG, Go1.refl _ _ _, fun h => (by cases h), rfl⟩
      clear hW hold hpre haft hG
      go_simp
    | 8, hi, hun, haft =>
      simp only [List.getElem?_toArray, List.getElem?_cons_zero, List.getElem?_cons_succ, Option.some.injEq] at hi
      subst hi
      have e115 : b.tmps[115]?.getD undef = .pointer (some ⟨cb, 6, none⟩) := hW 7 115 (hpre ⟨7, .data⟩ (by simp) rfl) rfl
      refine wp_of_value (w' := wx) (v := .slice (some ⟨gw, 0, none⟩) nw cw) ?_ ⟨_, γ, rfl, hG, Go1.refl _ _ _, fun h => (by cases h), rfl⟩
      have qs : l 14 = false := haft 14 _ rfl ⟨8, .phase⟩ (by simp) rfl rfl
      have k6 : wx.cell? ⟨cb, 6, none⟩ = some (.slice (some ⟨gw, 0, none⟩) nw cw) := (hG.row qs).cell (i := 6) (by omega)
      clear hW hold hpre haft hG
      go_simp
    | 9, hi, hun, haft =>
      simp only [List.getElem?_toArray, List.getElem?_cons_zero, List.getElem?_cons_succ, Option.some.injEq] at hi
      subst hi
      have e116 : b.tmps[116]?.getD undef = .slice (some ⟨gw, 0, none⟩) nw cw := hW 8 116 (hpre ⟨8, .data⟩ (by simp) rfl) rfl
      refine wp_of_value (w' := wx) (v := .int .i64 (nw : Int)) ?_ ⟨_, γ, rfl, hG, Go1.refl _ _ _, fun h => (by cases h), rfl⟩
      clear hW hold hpre haft hG
      go_simp
    | 10, hi, hun, haft =>
      simp only [List.getElem?_toArray, List.getElem?_cons_zero, List.getElem?_cons_succ, Option.some.injEq] at hi
      subst hi
      have e117 : b.tmps[117]?.getD undef = .int .i64 (nw : Int) := hW 9 117 (hpre ⟨9, .data⟩ (by simp) rfl) rfl
      have q11 : l 11 = false := haft 11 _ rfl ⟨10, .data⟩ (by simp) rfl rfl
      have q14 : l 14 = false := haft 14 _ rfl ⟨10, .phase⟩ (by simp) rfl rfl
      obtain ⟨hγ, ho⟩ := hG.before q11
      have hgs := hG.keeps.size
      refine wp_of_value (w' := wx.alloc (.cells #[.int .i64 (nw : Int)] 3)) (v := .slice (some ⟨wx.heap.size, 0, none⟩) 1 1) ?_ ⟨_, γ, rfl, ⟨hG.keeps.alloc _, fun _ => ⟨hγ, ho.alloc _⟩, fun gg cap h => ?_, fun h => (hG.row q14).alloc _, fun h => ?_⟩, ⟨by simp, fun b' _ h => Below.heap_alloc _ _ _ h, fun _ h => h⟩, fun h => (by cases h), ⟨wx.heap.size, rfl, hgs, by simp, heap_alloc_new wx _⟩⟩
      · clear hW hold hpre haft hG ho
        go_simp
      · rw [hγ] at h; cases h
      · simp [q14] at h
    | 11, hi, hun, haft =>
      simp only [List.getElem?_toArray, List.getElem?_cons_zero, List.getElem?_cons_succ, Option.some.injEq] at hi
      subst hi
      have e112 : b.tmps[112]?.getD undef = .slice (some ⟨gf, 0, none⟩) m cF := hW 4 112 (hpre ⟨4, .data⟩ (by simp) rfl) rfl
      have e118 := hW 10 118 (hpre ⟨10, .data⟩ (by simp) rfl) rfl
      obtain ⟨bb, e118, hb1, hb2, hb3⟩ := e118
      have q14 : l 14 = false := haft 14 _ rfl ⟨11, .data⟩ (by simp) rfl rfl
      obtain ⟨hγ, ho⟩ := hG.before hun
      obtain ⟨i0, hi0, hz0, hz1, hz2⟩ := info_parts info3
      have hgs := hG.keeps.size
      refine wp_append_lies wx (.tmp 112) (.tmp 118) 29 rfl B 3 i0 _ 1 8 Yba.underlying29 hi0 hz0 hz1 hz2 rfl (by omega) (.slice (some ⟨gf, 0, none⟩) m cF) m (ints fr) (by simpa [Act.eval] using e112) ho ⟨bb, 0, none⟩ 1 1 (ints [nw]) (by simpa [Act.eval] using e118) rfl (World.news_of_block hb3) (ints_one _) (by omega) (by unfold maxLen; omega) (by omega) (by omega) wx.heap.size rfl ?_
      intro gg cap w1 hown1 hgrow hat hlt
      rw [← ints_append] at hown1
      refine ⟨_, some (gg, cap), rfl, ⟨hG.keeps.grown hgrow (fun j hj _ => Or.inr (by simp [Value.ownBlock] at hj; exact hj.symm)), fun h => ?_, fun gg' cap' h => ?_, fun h => (hG.row q14).of_block (hgrow.block cb (by omega) (fun e => ncf (Eq.symm (by simpa [Value.ownBlock] using e)))), fun h => ?_⟩, ⟨hgrow.size, fun j h1 h2 => hgrow.block j h2 (fun e => ?_), fun q h => ?_⟩, fun h => (by cases h), ⟨gg, cap, rfl, rfl⟩⟩
      · simp at h
      · obtain ⟨rfl, rfl⟩ : gg = gg' ∧ cap = cap' := by simpa using h
        exact ⟨hown1, hat.imp (fun e => (by simp [Value.ownBlock] at e; exact e.symm)) (fun e => by omega)⟩
      · simp [q14] at h
      · have := ownsRow_lt hF gf rfl
        simp [Value.ownBlock] at e; omega
      · rw [hγ] at h; cases h
    | 12, hi, hun, haft =>
      simp only [List.getElem?_toArray, List.getElem?_cons_zero, List.getElem?_cons_succ, Option.some.injEq] at hi
      subst hi
      have e108 : b.tmps[108]?.getD undef = .pointer (some ⟨cb, 0, none⟩) := hW 0 108 (hpre ⟨0, .data⟩ (by simp) rfl) rfl
      refine wp_of_value (w' := wx) (v := .pointer (some ⟨cb, 0, none⟩)) ?_ ⟨_, γ, rfl, hG, Go1.refl _ _ _, fun h => (by cases h), rfl⟩
      clear hW hold hpre haft hG
      go_simp
    | 13, hi, hun, haft =>
      simp only [List.getElem?_toArray, List.getElem?_cons_zero, List.getElem?_cons_succ, Option.some.injEq] at hi
      subst hi
      have e120 : b.tmps[120]?.getD undef = .pointer (some ⟨cb, 0, none⟩) := hW 12 120 (hpre ⟨12, .data⟩ (by simp) rfl) rfl
      refine wp_of_value (w' := wx) (v := .pointer (some ⟨cb, 7, none⟩)) ?_ ⟨_, γ, rfl, hG, Go1.refl _ _ _, fun h => (by cases h), rfl⟩
      clear hW hold hpre haft hG
      go_simp
    | 14, hi, hun, haft =>
      simp only [List.getElem?_toArray, List.getElem?_cons_zero, List.getElem?_cons_succ, Option.some.injEq] at hi
      subst hi
      have e121 : b.tmps[121]?.getD undef = .pointer (some ⟨cb, 7, none⟩) := hW 13 121 (hpre ⟨13, .data⟩ (by simp) rfl) rfl
      have e119 := hW 11 119 (hpre ⟨11, .data⟩ (by simp) rfl) rfl
      obtain ⟨gg, cap, hγ, e119⟩ := e119
      have q11 : l 11 = true := hpre ⟨11, .data⟩ (by simp) rfl
      have hr' := hG.row hun
      obtain ⟨ho', hat⟩ := hG.after gg cap hγ
      have k2 : wx.cell? ⟨cb, 7, none⟩ = some (.slice (some ⟨gf, 0, none⟩) m cF) := hr'.cell (i := 7) (by omega)
      have f2 := hr'.frozen 7
      obtain ⟨tc, htc⟩ := row_tag hr'
      have hgb : gg ≠ cb := (tag_ne htc (ownsRow_tag ho' gg rfl).2.choose_spec (by decide)).symm
      refine wp_of_skip (w' := wx.setCell ⟨cb, 7, none⟩ (.slice (some ⟨gg, 0, none⟩) (m + 1) cap)) ?_ ⟨_, γ, rfl, ⟨hG.keeps.setCell (fun _ => Or.inl rfl) _, fun h => ?_, fun gg' cap' h => ?_, fun h => ?_, fun _ => ⟨gg, cap, hγ, (hr'.set 7 _).congr (fun j hj => by rcases eleven hj with rfl | rfl | rfl | rfl | rfl | rfl | rfl | rfl | rfl | rfl | rfl <;> rfl)⟩⟩, ⟨by simp, fun j h1 _ => Below.heap_setCell _ _ _ _ (by show j ≠ cb; omega), fun _ h => h⟩, fun _ => rfl, rfl⟩
      · clear hW hold hpre haft hG hr' htc ho'
        go_simp
      · simp [q11] at h
      · rw [hγ] at h
        obtain ⟨rfl, rfl⟩ : gg = gg' ∧ cap = cap' := by simpa using h
        exact ⟨ownsRow_of_block ho' (fun j hj => Below.heap_setCell _ _ _ _ (by simp [Value.ownBlock] at hj; subst hj; exact hgb)), hat⟩
      · simp at h
    | _ + 15, hi, _, _ => simp at hi
  · intro b wx l γ hsz' hds' hall hW hold hG
    have hold' : ∀ t, t ∉ ([108, 109, 110, 111, 112, 113, 114, 115, 116, 117, 118, 119, 120, 121] : List Nat) → b.tmps[t]?.getD undef = f.tmps[t]?.getD undef := fun t ht => hold t ht
    clear hold
    obtain ⟨gg, cap, hγ, h1⟩ := hG.shut (hall 14 (by decide))
    obtain ⟨h2, h3⟩ := hG.after gg cap hγ
    exact hend b wx gg cap hsz' hds' (fun t ht => hold' t (fun hm => by simp at hm; omega)) h1 h2 h3 hG.keeps

theorem zero1 (w : World) (gk n ck : Nat) (tw : Nat → Nat) (hr : w.rowIs gk 63 ck (fun j => .int .u64 ((tw j : Nat) : Int))) (hn : n < ck) (ty : TypeId) : (Builtin.append_ #[57, 3] ty #[.slice (some ⟨gk, 0, none⟩) n ck, .int .i64 1]).run Yba.prog w = .ok (.slice (some ⟨gk, 0, none⟩) (n + 1) ck) (w.setCell ⟨gk, n, none⟩ (.int .u64 0)) := by
  have hc := hr.cell hn
  have hf := hr.frozen n
  have hle : n + 1 ≤ ck := by omega
  obtain ⟨i, hi, hz, hs, hb⟩ := info_parts info63
  have e1 : Addr.add ⟨gk, 0, none⟩ n = (⟨gk, n, none⟩ : Addr) := by unfold Addr.add; split <;> simp_all
  have e2 : IntKind.i64.wrap 1 = 1 := by rfl
  simp [Builtin.append_, run_underlying Yba.underlying57, run_underlying Yba.underlying3, sizeOf, typeInfo, hi, hs, hb, hle, Builtin.zeroCells, zeroValue, hz, e1, e2, asInt, storeCells, Value.cells]
  go_simp
structure G10 (cb gk ck : Nat) (f0 f1 : Nat → Value) (tw : Nat → Nat) (w : World) (b : Bool) (wx : World) : Prop where
  keeps : Keeps (fun j => j = cb ∨ j = gk) w wx
  bits : wx.rowIs gk 63 ck (fun j => .int .u64 ((tw j : Nat) : Int))
  row : b = false → wx.rowIs cb 59 11 f0
  shut : b = true → wx.rowIs cb 59 11 f1

set_option maxRecDepth 100000 in
set_option maxHeartbeats 8000000 in
theorem c10 {Q : Exit → Act → World → Prop} (cb room left gk n ck : Nat) (x y s v sw fr t : Value) (tw : Nat → Nat) (f : Act) (w : World) (hsz : f.tmps.size = 191) (hds : f.defers = [])
    (ht0 : f.tmps[0]?.getD undef = .pointer (some ⟨cb, 0, none⟩)) (hr : w.rowIs cb 59 11 (cvF room left (x) (y) (s) (v) (sw) (fr) (t) (.slice (some ⟨gk, 0, none⟩) n ck))) (hk : w.rowIs gk 63 ck (fun j => .int .u64 ((tw j : Nat) : Int))) (hn : n < ck) (h0 : tw n = 0) (hroom : room < 64)
    (hend : ∀ f' w', f'.tmps.size = 191 → f'.defers = [] → (∀ t, t < 67 → f'.tmps[t]?.getD undef = f.tmps[t]?.getD undef) → w'.rowIs cb 59 11 (cvF room left (x) (y) (s) (v) (sw) (fr) (t) (.slice (some ⟨gk, 0, none⟩) (n + 1) ck)) → w'.rowIs gk 63 ck (fun j => .int .u64 ((tw j : Nat) : Int)) → Keeps (fun j => j = cb ∨ j = gk) w w' → Q .normal f' w') :
    Code.wp Yba.prog ((Yba.f12.body.bind (reg 10)).getD .skip) Q f w := by
  conv => arg 2; whnf
  have lcb := hr.lt
  have lgk := hk.lt
  obtain ⟨tc, htc⟩ := row_tag hr
  obtain ⟨tk, htk⟩ := row_tag hk
  have ncf : gk ≠ cb := (tag_ne htc htk (by decide)).symm
  have hd64 : Int.tdiv (room : Int) 64 = 0 := by rw [Int.tdiv_eq_ediv_of_nonneg (by omega)]; omega
  refine ops_law (N := 191) f w (by kernel_rfl) hsz hds (fun i v wx => match i with
    | i => v = (fun i => match i with
    | 0 => .pointer (some ⟨cb, 0, none⟩)
    | 1 => .pointer (some ⟨cb, 0, none⟩)
    | 2 => .pointer (some ⟨cb, 0, none⟩)
    | 3 => .pointer (some ⟨cb, 10, none⟩)
    | 4 => .slice (some ⟨gk, 0, none⟩) n ck
    | 5 => .pointer (some ⟨cb, 0, none⟩)
    | 6 => .pointer (some ⟨cb, 0, none⟩)
    | 7 => .pointer (some ⟨cb, 0, none⟩)
    | 8 => .int .i64 (room : Int)
    | 9 => .int .i64 0
    | 10 => .int .i64 1
    | 11 => .slice (some ⟨gk, 0, none⟩) (n + 1) ck
    | 12 => .pointer (some ⟨cb, 0, none⟩)
    | 13 => .pointer (some ⟨cb, 10, none⟩)
    | 14 => undef
    | _ => undef : Nat → Value) i) (fun l wx => G10 cb gk ck (cvF room left (x) (y) (s) (v) (sw) (fr) (t) (.slice (some ⟨gk, 0, none⟩) n ck)) (cvF room left (x) (y) (s) (v) (sw) (fr) (t) (.slice (some ⟨gk, 0, none⟩) (n + 1) ck)) tw w (l 14) wx) w.heap.size ?_ ⟨(Keeps.refl _ _).drew, World.rowIs.drew hk, fun _ => World.rowIs.drew hr, fun h => (by cases h)⟩ ?_ ?_
  · intro i v wx wx' hg h
    exact h
  · intro i o hi l b wx hun haft hpre hW hold hG
    match i, hi, hun, haft with
    | 0, hi, hun, haft =>
      simp only [List.getElem?_toArray, List.getElem?_cons_zero, List.getElem?_cons_succ, Option.some.injEq] at hi
      subst hi
      have e0 : b.tmps[0]?.getD undef = .pointer (some ⟨cb, 0, none⟩) := (hold 0 (by decide)).trans ht0
      refine wp_of_value (w' := wx) (v := .pointer (some ⟨cb, 0, none⟩)) ?_ ⟨_, rfl, hG, Ext.refl _ _, fun h => (by cases h), rfl⟩
      clear hW hold hpre haft hG
      go_simp
    | 1, hi, hun, haft =>
      simp only [List.getElem?_toArray, List.getElem?_cons_zero, List.getElem?_cons_succ, Option.some.injEq] at hi
      subst hi
      have e0 : b.tmps[0]?.getD undef = .pointer (some ⟨cb, 0, none⟩) := (hold 0 (by decide)).trans ht0
      refine wp_of_value (w' := wx) (v := .pointer (some ⟨cb, 0, none⟩)) ?_ ⟨_, rfl, hG, Ext.refl _ _, fun h => (by cases h), rfl⟩
      clear hW hold hpre haft hG
      go_simp
    | 2, hi, hun, haft =>
      simp only [List.getElem?_toArray, List.getElem?_cons_zero, List.getElem?_cons_succ, Option.some.injEq] at hi
      subst hi
      have e128 : b.tmps[128]?.getD undef = .pointer (some ⟨cb, 0, none⟩) := hW 1 128 (hpre ⟨1, .data⟩ (by simp) rfl) rfl
      refine wp_of_value (w' := wx) (v := .pointer (some ⟨cb, 0, none⟩)) ?_ ⟨_, rfl, hG, Ext.refl _ _, fun h => (by cases h), rfl⟩
      clear hW hold hpre haft hG
      go_simp
    | 3, hi, hun, haft =>
      simp only [List.getElem?_toArray, List.getElem?_cons_zero, List.getElem?_cons_succ, Option.some.injEq] at hi
      subst hi
      have e129 : b.tmps[129]?.getD undef = .pointer (some ⟨cb, 0, none⟩) := hW 2 129 (hpre ⟨2, .data⟩ (by simp) rfl) rfl
      refine wp_of_value (w' := wx) (v := .pointer (some ⟨cb, 10, none⟩)) ?_ ⟨_, rfl, hG, Ext.refl _ _, fun h => (by cases h), rfl⟩
      clear hW hold hpre haft hG
      go_simp
    | 4, hi, hun, haft =>
      simp only [List.getElem?_toArray, List.getElem?_cons_zero, List.getElem?_cons_succ, Option.some.injEq] at hi
      subst hi
      have e130 : b.tmps[130]?.getD undef = .pointer (some ⟨cb, 10, none⟩) := hW 3 130 (hpre ⟨3, .data⟩ (by simp) rfl) rfl
      refine wp_of_value (w' := wx) (v := .slice (some ⟨gk, 0, none⟩) n ck) ?_ ⟨_, rfl, hG, Ext.refl _ _, fun h => (by cases h), rfl⟩
      have qs : l 14 = false := haft 14 _ rfl ⟨4, .phase⟩ (by simp) rfl rfl
      have k10 : wx.cell? ⟨cb, 10, none⟩ = some (.slice (some ⟨gk, 0, none⟩) n ck) := (hG.row qs).cell (i := 10) (by omega)
      clear hW hold hpre haft hG
      go_simp
    | 5, hi, hun, haft =>
      simp only [List.getElem?_toArray, List.getElem?_cons_zero, List.getElem?_cons_succ, Option.some.injEq] at hi
      subst hi
      have e0 : b.tmps[0]?.getD undef = .pointer (some ⟨cb, 0, none⟩) := (hold 0 (by decide)).trans ht0
      refine wp_of_value (w' := wx) (v := .pointer (some ⟨cb, 0, none⟩)) ?_ ⟨_, rfl, hG, Ext.refl _ _, fun h => (by cases h), rfl⟩
      clear hW hold hpre haft hG
      go_simp
    | 6, hi, hun, haft =>
      simp only [List.getElem?_toArray, List.getElem?_cons_zero, List.getElem?_cons_succ, Option.some.injEq] at hi
      subst hi
      have e132 : b.tmps[132]?.getD undef = .pointer (some ⟨cb, 0, none⟩) := hW 5 132 (hpre ⟨5, .data⟩ (by simp) rfl) rfl
      refine wp_of_value (w' := wx) (v := .pointer (some ⟨cb, 0, none⟩)) ?_ ⟨_, rfl, hG, Ext.refl _ _, fun h => (by cases h), rfl⟩
      clear hW hold hpre haft hG
      go_simp
    | 7, hi, hun, haft =>
      simp only [List.getElem?_toArray, List.getElem?_cons_zero, List.getElem?_cons_succ, Option.some.injEq] at hi
      subst hi
      have e133 : b.tmps[133]?.getD undef = .pointer (some ⟨cb, 0, none⟩) := hW 6 133 (hpre ⟨6, .data⟩ (by simp) rfl) rfl
      refine wp_of_value (w' := wx) (v := .pointer (some ⟨cb, 0, none⟩)) ?_ ⟨_, rfl, hG, Ext.refl _ _, fun h => (by cases h), rfl⟩
      clear hW hold hpre haft hG
      go_simp
    | 8, hi, hun, haft =>
      simp only [List.getElem?_toArray, List.getElem?_cons_zero, List.getElem?_cons_succ, Option.some.injEq] at hi
      subst hi
      have e134 : b.tmps[134]?.getD undef = .pointer (some ⟨cb, 0, none⟩) := hW 7 134 (hpre ⟨7, .data⟩ (by simp) rfl) rfl
      refine wp_of_value (w' := wx) (v := .int .i64 (room : Int)) ?_ ⟨_, rfl, hG, Ext.refl _ _, fun h => (by cases h), rfl⟩
      have qs : l 14 = false := haft 14 _ rfl ⟨8, .phase⟩ (by simp) rfl rfl
      have k0 : wx.cell? ⟨cb, 0, none⟩ = some (.int .i64 (room : Int)) := (hG.row qs).cell (i := 0) (by omega)
      clear hW hold hpre haft hG
      go_simp
    | 9, hi, hun, haft =>
      simp only [List.getElem?_toArray, List.getElem?_cons_zero, List.getElem?_cons_succ, Option.some.injEq] at hi
      subst hi
      have e135 : b.tmps[135]?.getD undef = .int .i64 (room : Int) := hW 8 135 (hpre ⟨8, .data⟩ (by simp) rfl) rfl
      refine wp_of_value (w' := wx) (v := .int .i64 0) ?_ ⟨_, rfl, hG, Ext.refl _ _, fun h => (by cases h), rfl⟩
      clear hW hold hpre haft hG
      go_simp
      rfl
    | 10, hi, hun, haft =>
      simp only [List.getElem?_toArray, List.getElem?_cons_zero, List.getElem?_cons_succ, Option.some.injEq] at hi
      subst hi
      have e136 : b.tmps[136]?.getD undef = .int .i64 0 := hW 9 136 (hpre ⟨9, .data⟩ (by simp) rfl) rfl
      refine wp_of_value (w' := wx) (v := .int .i64 1) ?_ ⟨_, rfl, hG, Ext.refl _ _, fun h => (by cases h), rfl⟩
      clear hW hold hpre haft hG
      go_simp
      rfl
    | 11, hi, hun, haft =>
      simp only [List.getElem?_toArray, List.getElem?_cons_zero, List.getElem?_cons_succ, Option.some.injEq] at hi
      subst hi
      have e131 : b.tmps[131]?.getD undef = .slice (some ⟨gk, 0, none⟩) n ck := hW 4 131 (hpre ⟨4, .data⟩ (by simp) rfl) rfl
      have e137 : b.tmps[137]?.getD undef = .int .i64 1 := hW 10 137 (hpre ⟨10, .data⟩ (by simp) rfl) rfl
      have q14 : l 14 = false := haft 14 _ rfl ⟨11, .data⟩ (by simp) rfl rfl
      have hz := zero1 wx gk n ck tw hG.bits hn
      refine wp_of_value (w' := wx.setCell ⟨gk, n, none⟩ (.int .u64 0)) (v := .slice (some ⟨gk, 0, none⟩) (n + 1) ck) ?_ ⟨_, rfl, ⟨hG.keeps.setCell (fun _ => Or.inr rfl) _, (hG.bits.set n _).congr (fun j _ => ?_), fun h => (hG.row q14).setOther (Ne.symm ncf) _, fun h => ?_⟩, Ext.setCell _ _ _ _ lgk, fun h => (by cases h), rfl⟩
      · have hs : b.eval (.tmp 131) = .slice (some ⟨gk, 0, none⟩) n ck := by simpa [Act.eval] using e131
        have hx : b.eval (.tmp 137) = .int .i64 1 := by simpa [Act.eval] using e137
        unfold execOp
        simp only [resolve, invoke, builtin, Sem.run_bind, Sem.run_pure, Result.andThen_ok, List.map_toArray, List.map_cons, List.map_nil, hs, hx, hz]
      · by_cases e : j = n
        · subst e; rw [if_pos rfl, h0]; rfl
        · rw [if_neg e]
      · simp [q14] at h
    | 12, hi, hun, haft =>
      simp only [List.getElem?_toArray, List.getElem?_cons_zero, List.getElem?_cons_succ, Option.some.injEq] at hi
      subst hi
      have e127 : b.tmps[127]?.getD undef = .pointer (some ⟨cb, 0, none⟩) := hW 0 127 (hpre ⟨0, .data⟩ (by simp) rfl) rfl
      refine wp_of_value (w' := wx) (v := .pointer (some ⟨cb, 0, none⟩)) ?_ ⟨_, rfl, hG, Ext.refl _ _, fun h => (by cases h), rfl⟩
      clear hW hold hpre haft hG
      go_simp
    | 13, hi, hun, haft =>
      simp only [List.getElem?_toArray, List.getElem?_cons_zero, List.getElem?_cons_succ, Option.some.injEq] at hi
      subst hi
      have e139 : b.tmps[139]?.getD undef = .pointer (some ⟨cb, 0, none⟩) := hW 12 139 (hpre ⟨12, .data⟩ (by simp) rfl) rfl
      refine wp_of_value (w' := wx) (v := .pointer (some ⟨cb, 10, none⟩)) ?_ ⟨_, rfl, hG, Ext.refl _ _, fun h => (by cases h), rfl⟩
      clear hW hold hpre haft hG
      go_simp
    | 14, hi, hun, haft =>
      simp only [List.getElem?_toArray, List.getElem?_cons_zero, List.getElem?_cons_succ, Option.some.injEq] at hi
      subst hi
      have e140 : b.tmps[140]?.getD undef = .pointer (some ⟨cb, 10, none⟩) := hW 13 140 (hpre ⟨13, .data⟩ (by simp) rfl) rfl
      have e138 : b.tmps[138]?.getD undef = .slice (some ⟨gk, 0, none⟩) (n + 1) ck := hW 11 138 (hpre ⟨11, .data⟩ (by simp) rfl) rfl
      have hr' := hG.row hun
      have k2 : wx.cell? ⟨cb, 10, none⟩ = some (.slice (some ⟨gk, 0, none⟩) n ck) := hr'.cell (i := 10) (by omega)
      have f2 := hr'.frozen 10
      refine wp_of_skip (w' := wx.setCell ⟨cb, 10, none⟩ (.slice (some ⟨gk, 0, none⟩) (n + 1) ck)) ?_ ⟨_, rfl, ⟨hG.keeps.setCell (fun _ => Or.inl rfl) _, hG.bits.setOther ncf _, fun h => ?_, fun _ => (hr'.set 10 _).congr (fun j hj => by rcases eleven hj with rfl | rfl | rfl | rfl | rfl | rfl | rfl | rfl | rfl | rfl | rfl <;> rfl)⟩, Ext.setCell _ _ _ _ lcb, fun _ => rfl, rfl⟩
      · clear hW hold hpre haft hG hr'
        go_simp
      · simp at h
    | _ + 15, hi, _, _ => simp at hi
  · intro b wx l hsz' hds' hall hW hold hG
    have hold' : ∀ t, t ∉ ([127, 128, 129, 130, 131, 132, 133, 134, 135, 136, 137, 138, 139, 140] : List Nat) → b.tmps[t]?.getD undef = f.tmps[t]?.getD undef := fun t ht => hold t ht
    clear hold
    exact hend b wx hsz' hds' (fun t ht => hold' t (fun hm => by simp at hm; omega)) (hG.shut (hall 14 (by decide))) hG.bits hG.keeps

structure G18 (gk ck n c : Nat) (tw : Nat → Nat) (w : World) (b : Bool) (wx : World) : Prop where
  keeps : Keeps (fun j => j = gk) w wx
  row : b = false → wx.rowIs gk 63 ck (fun j => .int .u64 ((tw j : Nat) : Int))
  shut : b = true → wx.rowIs gk 63 ck (fun j => .int .u64 (((if j = n then tw n ||| 2 ^ c else tw j) : Nat) : Int))

set_option maxRecDepth 100000 in
set_option maxHeartbeats 8000000 in
theorem c18 {Q : Exit → Act → World → Prop} (gk n ck c : Nat) (tw : Nat → Nat) (f : Act) (w : World) (hsz : f.tmps.size = 191) (hds : f.defers = [])
    (ht6 : f.tmps[6]?.getD undef = .slice (some ⟨gk, n, none⟩) 1 (ck - n)) (ht7 : f.tmps[7]?.getD undef = .int .i64 (c : Int)) (hk : w.rowIs gk 63 ck (fun j => .int .u64 ((tw j : Nat) : Int))) (hn : n < ck) (hc : c < 64) (hb : tw n < 2 ^ 64)
    (hend : ∀ f' w', f'.tmps.size = 191 → f'.defers = [] → (∀ t, t < 67 → f'.tmps[t]?.getD undef = f.tmps[t]?.getD undef) → w'.rowIs gk 63 ck (fun j => .int .u64 (((if j = n then tw n ||| 2 ^ c else tw j) : Nat) : Int)) → Keeps (fun j => j = gk) w w' → Q .normal f' w') :
    Code.wp Yba.prog ((Yba.f12.body.bind (reg 18)).getD .skip) Q f w := by
  conv => arg 2; whnf
  have lgk := hk.lt
  have hd64 : Int.tdiv (c : Int) 64 = 0 := by rw [Int.tdiv_eq_ediv_of_nonneg (by omega)]; omega
  have hm64 : Int.tmod (c : Int) 64 = (c : Int) := by rw [Int.tmod_eq_emod_of_nonneg (by omega)]; omega
  have hpn : 2 ^ c < 2 ^ 64 := Nat.pow_lt_pow_right (by omega) hc
  have hp64 : (2 : Int) ^ c < 18446744073709551616 := by have : ((2 ^ c : Nat) : Int) < ((2 ^ 64 : Nat) : Int) := by omega
                                                         simpa using this
  have hp0 : (0 : Int) ≤ (2 : Int) ^ c := by have : (0 : Int) ≤ ((2 ^ c : Nat) : Int) := Int.natCast_nonneg _
                                             simpa using this
  refine ops_law (N := 191) f w (by kernel_rfl) hsz hds (fun i v wx => match i with
    | i => v = (fun i => match i with
    | 0 => .slice (some ⟨gk, n, none⟩) 1 (ck - n)
    | 1 => .int .i64 (c : Int)
    | 2 => .int .i64 0
    | 3 => .pointer (some ⟨gk, n, none⟩)
    | 4 => .int .u64 ((tw n : Nat) : Int)
    | 5 => .int .i64 (c : Int)
    | 6 => .int .i64 (c : Int)
    | 7 => .int .u64 ((2 ^ c : Nat) : Int)
    | 8 => .int .u64 (((tw n ||| 2 ^ c) : Nat) : Int)
    | 9 => .pointer (some ⟨gk, n, none⟩)
    | 10 => undef
    | _ => undef : Nat → Value) i) (fun l wx => G18 gk ck n c tw w (l 10) wx) w.heap.size ?_ ⟨(Keeps.refl _ _).drew, fun _ => World.rowIs.drew hk, fun h => (by cases h)⟩ ?_ ?_
  · intro i v wx wx' hg h
    exact h
  · intro i o hi l b wx hun haft hpre hW hold hG
    match i, hi, hun, haft with
    | 0, hi, hun, haft =>
      simp only [List.getElem?_toArray, List.getElem?_cons_zero, List.getElem?_cons_succ, Option.some.injEq] at hi
      subst hi
      have e6 : b.tmps[6]?.getD undef = .slice (some ⟨gk, n, none⟩) 1 (ck - n) := (hold 6 (by decide)).trans ht6
      refine wp_of_value (w' := wx) (v := .slice (some ⟨gk, n, none⟩) 1 (ck - n)) ?_ ⟨_, rfl, hG, Ext.refl _ _, fun h => (by cases h), rfl⟩
      clear hW hold hpre haft hG
      go_simp
    | 1, hi, hun, haft =>
      simp only [List.getElem?_toArray, List.getElem?_cons_zero, List.getElem?_cons_succ, Option.some.injEq] at hi
      subst hi
      have e7 : b.tmps[7]?.getD undef = .int .i64 (c : Int) := (hold 7 (by decide)).trans ht7
      refine wp_of_value (w' := wx) (v := .int .i64 (c : Int)) ?_ ⟨_, rfl, hG, Ext.refl _ _, fun h => (by cases h), rfl⟩
      clear hW hold hpre haft hG
      go_simp
    | 2, hi, hun, haft =>
      simp only [List.getElem?_toArray, List.getElem?_cons_zero, List.getElem?_cons_succ, Option.some.injEq] at hi
      subst hi
      have e182 : b.tmps[182]?.getD undef = .int .i64 (c : Int) := hW 1 182 (hpre ⟨1, .data⟩ (by simp) rfl) rfl
      refine wp_of_value (w' := wx) (v := .int .i64 0) ?_ ⟨_, rfl, hG, Ext.refl _ _, fun h => (by cases h), rfl⟩
      clear hW hold hpre haft hG
      go_simp
      rfl
    | 3, hi, hun, haft =>
      simp only [List.getElem?_toArray, List.getElem?_cons_zero, List.getElem?_cons_succ, Option.some.injEq] at hi
      subst hi
      have e181 : b.tmps[181]?.getD undef = .slice (some ⟨gk, n, none⟩) 1 (ck - n) := hW 0 181 (hpre ⟨0, .data⟩ (by simp) rfl) rfl
      have e183 : b.tmps[183]?.getD undef = .int .i64 0 := hW 2 183 (hpre ⟨2, .data⟩ (by simp) rfl) rfl
      refine wp_of_value (w' := wx) (v := .pointer (some ⟨gk, n, none⟩)) ?_ ⟨_, rfl, hG, Ext.refl _ _, fun h => (by cases h), rfl⟩
      clear hW hold hpre haft hG
      go_simp
    | 4, hi, hun, haft =>
      simp only [List.getElem?_toArray, List.getElem?_cons_zero, List.getElem?_cons_succ, Option.some.injEq] at hi
      subst hi
      have e184 : b.tmps[184]?.getD undef = .pointer (some ⟨gk, n, none⟩) := hW 3 184 (hpre ⟨3, .data⟩ (by simp) rfl) rfl
      have qs : l 10 = false := haft 10 _ rfl ⟨4, .phase⟩ (by simp) rfl rfl
      have kk := (hG.row qs).cell hn
      refine wp_of_value (w' := wx) (v := .int .u64 ((tw n : Nat) : Int)) ?_ ⟨_, rfl, hG, Ext.refl _ _, fun h => (by cases h), rfl⟩
      clear hW hold hpre haft hG
      go_simp
    | 5, hi, hun, haft =>
      simp only [List.getElem?_toArray, List.getElem?_cons_zero, List.getElem?_cons_succ, Option.some.injEq] at hi
      subst hi
      have e7 : b.tmps[7]?.getD undef = .int .i64 (c : Int) := (hold 7 (by decide)).trans ht7
      refine wp_of_value (w' := wx) (v := .int .i64 (c : Int)) ?_ ⟨_, rfl, hG, Ext.refl _ _, fun h => (by cases h), rfl⟩
      clear hW hold hpre haft hG
      go_simp
    | 6, hi, hun, haft =>
      simp only [List.getElem?_toArray, List.getElem?_cons_zero, List.getElem?_cons_succ, Option.some.injEq] at hi
      subst hi
      have e186 : b.tmps[186]?.getD undef = .int .i64 (c : Int) := hW 5 186 (hpre ⟨5, .data⟩ (by simp) rfl) rfl
      refine wp_of_value (w' := wx) (v := .int .i64 (c : Int)) ?_ ⟨_, rfl, hG, Ext.refl _ _, fun h => (by cases h), rfl⟩
      clear hW hold hpre haft hG
      go_simp
    | 7, hi, hun, haft =>
      simp only [List.getElem?_toArray, List.getElem?_cons_zero, List.getElem?_cons_succ, Option.some.injEq] at hi
      subst hi
      have e187 : b.tmps[187]?.getD undef = .int .i64 (c : Int) := hW 6 187 (hpre ⟨6, .data⟩ (by simp) rfl) rfl
      refine wp_of_value (w' := wx) (v := .int .u64 ((2 ^ c : Nat) : Int)) ?_ ⟨_, rfl, hG, Ext.refl _ _, fun h => (by cases h), rfl⟩
      clear hW hold hpre haft hG
      go_simp
      rw [IntKind.wrap_u64, Int.emod_eq_of_lt (by omega) hp64]
    | 8, hi, hun, haft =>
      simp only [List.getElem?_toArray, List.getElem?_cons_zero, List.getElem?_cons_succ, Option.some.injEq] at hi
      subst hi
      have e185 : b.tmps[185]?.getD undef = .int .u64 ((tw n : Nat) : Int) := hW 4 185 (hpre ⟨4, .data⟩ (by simp) rfl) rfl
      have e188 : b.tmps[188]?.getD undef = .int .u64 ((2 ^ c : Nat) : Int) := hW 7 188 (hpre ⟨7, .data⟩ (by simp) rfl) rfl
      refine wp_of_value (w' := wx) (v := .int .u64 (((tw n ||| 2 ^ c) : Nat) : Int)) ?_ ⟨_, rfl, hG, Ext.refl _ _, fun h => (by cases h), rfl⟩
      clear hW hold hpre haft hG
      go_simp
      have hh := u64_or_nat (tw n) (2 ^ c) hb hpn
      simpa using hh
    | 9, hi, hun, haft =>
      simp only [List.getElem?_toArray, List.getElem?_cons_zero, List.getElem?_cons_succ, Option.some.injEq] at hi
      subst hi
      have e181 : b.tmps[181]?.getD undef = .slice (some ⟨gk, n, none⟩) 1 (ck - n) := hW 0 181 (hpre ⟨0, .data⟩ (by simp) rfl) rfl
      have e183 : b.tmps[183]?.getD undef = .int .i64 0 := hW 2 183 (hpre ⟨2, .data⟩ (by simp) rfl) rfl
      refine wp_of_value (w' := wx) (v := .pointer (some ⟨gk, n, none⟩)) ?_ ⟨_, rfl, hG, Ext.refl _ _, fun h => (by cases h), rfl⟩
      clear hW hold hpre haft hG
      go_simp
    | 10, hi, hun, haft =>
      simp only [List.getElem?_toArray, List.getElem?_cons_zero, List.getElem?_cons_succ, Option.some.injEq] at hi
      subst hi
      have e190 : b.tmps[190]?.getD undef = .pointer (some ⟨gk, n, none⟩) := hW 9 190 (hpre ⟨9, .data⟩ (by simp) rfl) rfl
      have e189 : b.tmps[189]?.getD undef = .int .u64 (((tw n ||| 2 ^ c) : Nat) : Int) := hW 8 189 (hpre ⟨8, .data⟩ (by simp) rfl) rfl
      have hr' := hG.row hun
      have kk := hr'.cell hn
      have f2 := hr'.frozen n
      refine wp_of_skip (w' := wx.setCell ⟨gk, n, none⟩ (.int .u64 (((tw n ||| 2 ^ c) : Nat) : Int))) ?_ ⟨_, rfl, ⟨hG.keeps.setCell (fun _ => rfl) _, fun h => ?_, fun _ => (hr'.set n _).congr (fun j _ => ?_)⟩, Ext.setCell _ _ _ _ lgk, fun _ => rfl, rfl⟩
      · clear hW hold hpre haft hG hr'
        go_simp
      · simp at h
      · by_cases e : j = n
        · subst e; rw [if_pos rfl, if_pos rfl]
        · rw [if_neg e, if_neg e]
    | _ + 11, hi, _, _ => simp at hi
  · intro b wx l hsz' hds' hall hW hold hG
    have hold' : ∀ t, t ∉ ([181, 182, 183, 184, 185, 186, 187, 188, 189, 190] : List Nat) → b.tmps[t]?.getD undef = f.tmps[t]?.getD undef := fun t ht => hold t ht
    clear hold
    exact hend b wx hsz' hds' (fun t ht => hold' t (fun hm => by simp at hm; omega)) (hG.shut (hall 10 (by decide))) hG.keeps
end Go.Proofs.Ybulkbnbu.Kn
