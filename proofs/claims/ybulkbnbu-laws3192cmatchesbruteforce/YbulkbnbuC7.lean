/-
  The curve's 'add' (function 12): its drawn regions.
-/
import Derived.Test.YbulkbnbuFill
namespace Go.Proofs.Ybulkbnbu.Kn
set_option linter.unusedSimpArgs false
set_option linter.unusedVariables false
open Go.ChangeShapes Go.WideShapes Go.ChangeAt Go.RowKit
open Go.Proofs.Ybulkbnbu.Fl Go.Proofs.Ybulkbnbu.Pl
attribute [local go_sem] run_store_float

/-- The curve's eleven cells. -/
def cvF (room left : Nat) (x y s v w f t k : Value) : Nat → Value
  | 0 => .int .i64 (room : Int)
  | 1 => .int .i64 (left : Int)
  | 2 => x
  | 3 => y
  | 4 => s
  | 5 => v
  | 6 => w
  | 7 => f
  | 8 => .int .i64 16
  | 9 => t
  | 10 => k
  | _ => undef
theorem eleven {j : Nat} (h : j < 11) : j = 0 ∨ j = 1 ∨ j = 2 ∨ j = 3 ∨ j = 4 ∨ j = 5 ∨ j = 6 ∨ j = 7 ∨ j = 8 ∨ j = 9 ∨ j = 10 := by omega
/-- What stands while a region that ends with one store into the curve runs. -/
structure GS (cb : Nat) (f : Nat → Value) (P : World → Prop) (w : World) (st : Bool) (wx : World) : Prop where
  keeps : Keeps (fun k => k = cb) w wx
  row : st = false → wx.rowIs cb 59 11 f
  shut : st = true → P wx
theorem info63 : (Yba.prog.info? 63).map (fun i => (i.zero, i.size, i.bytes)) = some (some (.int .u64 0), 1, 8) := by kernel_rfl
theorem made_u (w : World) (n : Nat) (hn : n ≤ 1000) : (Instr.makeSlice 57 (.int .i64 0) (.int .i64 (n : Int))).run Yba.prog w = .ok (.slice (some ⟨w.heap.size, 0, none⟩) 0 n) (w.alloc (.cells (madeCells #[.int .u64 0] n) 63)) := by
  obtain ⟨i, hi, hz, hs, hb⟩ := info_parts info63
  have hr := run_make (P := Yba.prog) w 57 63 i _ Yba.underlying57 hi hz .i64 .i64 0 n (Int.le_refl _) (by omega) (by rw [hb]; omega) (by omega)
  simpa [hs, Value.cells] using hr

set_option maxRecDepth 100000 in
set_option maxHeartbeats 8000000 in
theorem c2 {Q : Exit → Act → World → Prop} (B cb sz vz L cS cV room left : Nat) (s v sw fr k : Value) (xs us : List Nat) (G : Nat → Nat) (f : Act) (w : World) (hsz : f.tmps.size = 191) (hds : f.defers = [])
    (ht0 : f.tmps[0]?.getD undef = .pointer (some ⟨cb, 0, none⟩)) (hr : w.rowIs cb 59 11 (cvF room left (.slice (some ⟨sz, 0, none⟩) L cS) (.slice (some ⟨vz, 0, none⟩) L cV) (s) (v) (sw) (fr) (.slice none 0 0) (k))) (hX : w.ownsRow B 3 1 (.slice (some ⟨sz, 0, none⟩) L cS) L (ints xs)) (hU : w.ownsRow B 26 1 (.slice (some ⟨vz, 0, none⟩) L cV) L (flts us)) (hR : Rep xs us room G) (hroom : room < 900) (hL : L ≤ 100)
    (hend : ∀ f' w' g, f'.tmps.size = 191 → f'.defers = [] → (∀ t, t < 28 → f'.tmps[t]?.getD undef = f.tmps[t]?.getD undef) → w'.rowIs cb 59 11 (cvF room left (.slice (some ⟨sz, 0, none⟩) L cS) (.slice (some ⟨vz, 0, none⟩) L cV) (s) (v) (sw) (fr) (.slice (some ⟨g, 0, none⟩) (room + 1) (room + 1)) (k)) → w'.rowIs g 26 (room + 1) (fun c => .float .f64 (W (G c))) → w.heap.size ≤ g → Keeps (fun k => k = cb) w w' → Q .normal f' w') :
    Code.wp Yba.prog ((Yba.f12.body.bind (reg 2)).getD .skip) Q f w := by
  conv => arg 2; whnf
  obtain ⟨tc, htc⟩ := row_tag hr
  have nX : sz ≠ cb := (tag_ne htc (ownsRow_tag hX sz rfl).2.choose_spec (by decide)).symm
  have nV : vz ≠ cb := (tag_ne htc (ownsRow_tag hU vz rfl).2.choose_spec (by decide)).symm
  have lcb := hr.lt
  refine ops_law (N := 191) f w (by kernel_rfl) hsz hds (fun i v wx => match i with
    | 9 => ∃ g, v = .slice (some ⟨g, 0, none⟩) (room + 1) (room + 1) ∧ wx.rowIs g 26 (room + 1) (fun c => .float .f64 (W (G c))) ∧ w.heap.size ≤ g
    | i => v = (fun i => match i with
    | 0 => .pointer (some ⟨cb, 0, none⟩)
    | 1 => .pointer (some ⟨cb, 0, none⟩)
    | 2 => .pointer (some ⟨cb, 0, none⟩)
    | 3 => .pointer (some ⟨cb, 2, none⟩)
    | 4 => .agg #[.slice (some ⟨sz, 0, none⟩) L cS, .slice (some ⟨vz, 0, none⟩) L cV]
    | 5 => .pointer (some ⟨cb, 0, none⟩)
    | 6 => .pointer (some ⟨cb, 0, none⟩)
    | 7 => .pointer (some ⟨cb, 0, none⟩)
    | 8 => .int .i64 (room : Int)
    | 10 => .pointer (some ⟨cb, 0, none⟩)
    | 11 => .pointer (some ⟨cb, 9, none⟩)
    | 12 => undef
    | _ => undef : Nat → Value) i) (fun l wx => GS cb (cvF room left (.slice (some ⟨sz, 0, none⟩) L cS) (.slice (some ⟨vz, 0, none⟩) L cV) (s) (v) (sw) (fr) (.slice none 0 0) (k)) (fun wx => ∃ g, wx.rowIs cb 59 11 (cvF room left (.slice (some ⟨sz, 0, none⟩) L cS) (.slice (some ⟨vz, 0, none⟩) L cV) (s) (v) (sw) (fr) (.slice (some ⟨g, 0, none⟩) (room + 1) (room + 1)) (k)) ∧ wx.rowIs g 26 (room + 1) (fun c => .float .f64 (W (G c))) ∧ w.heap.size ≤ g) w (l 12) wx) w.heap.size ?_ ⟨(Keeps.refl _ _).drew, fun _ => World.rowIs.drew hr, fun h => (by cases h)⟩ ?_ ?_
  · intro i v wx wx' hg h
    split at h
    · obtain ⟨g, h1, h2, h3⟩ := h
      exact ⟨g, h1, h2.of_block (hg.block g h3 h2.lt), h3⟩
    · exact h
  · intro i o hi l b wx hun haft hpre hW hold hG
    match i, hi, hun, haft with
    | 0, hi, hun, haft =>
      simp only [List.getElem?_toArray, List.getElem?_cons_zero, List.getElem?_cons_succ, Option.some.injEq] at hi
      subst hi
      have e0 : b.tmps[0]?.getD undef = .pointer (some ⟨cb, 0, none⟩) := (hold 0 (by decide)).trans ht0
      refine wp_of_value (w' := wx) (v := .pointer (some ⟨cb, 0, none⟩)) ?_ ⟨_, rfl, hG, Ext.refl _ _, fun h => (by cases h), rfl⟩
      clear hW hold hpre haft hG
      go_simp
    | 1, hi, hun, haft =>
      simp only [List.getElem?_toArray, List.getElem?_cons_zero, List.getElem?_cons_succ, Option.some.injEq] at hi
      subst hi
      have e0 : b.tmps[0]?.getD undef = .pointer (some ⟨cb, 0, none⟩) := (hold 0 (by decide)).trans ht0
      refine wp_of_value (w' := wx) (v := .pointer (some ⟨cb, 0, none⟩)) ?_ ⟨_, rfl, hG, Ext.refl _ _, fun h => (by cases h), rfl⟩
      clear hW hold hpre haft hG
      go_simp
    | 2, hi, hun, haft =>
      simp only [List.getElem?_toArray, List.getElem?_cons_zero, List.getElem?_cons_succ, Option.some.injEq] at hi
      subst hi
      have e29 : b.tmps[29]?.getD undef = .pointer (some ⟨cb, 0, none⟩) := hW 1 29 (hpre ⟨1, .data⟩ (by simp) rfl) rfl
      refine wp_of_value (w' := wx) (v := .pointer (some ⟨cb, 0, none⟩)) ?_ ⟨_, rfl, hG, Ext.refl _ _, fun h => (by cases h), rfl⟩
      clear hW hold hpre haft hG
      go_simp
    | 3, hi, hun, haft =>
      simp only [List.getElem?_toArray, List.getElem?_cons_zero, List.getElem?_cons_succ, Option.some.injEq] at hi
      subst hi
      have e30 : b.tmps[30]?.getD undef = .pointer (some ⟨cb, 0, none⟩) := hW 2 30 (hpre ⟨2, .data⟩ (by simp) rfl) rfl
      refine wp_of_value (w' := wx) (v := .pointer (some ⟨cb, 2, none⟩)) ?_ ⟨_, rfl, hG, Ext.refl _ _, fun h => (by cases h), rfl⟩
      clear hW hold hpre haft hG
      go_simp
    | 4, hi, hun, haft =>
      simp only [List.getElem?_toArray, List.getElem?_cons_zero, List.getElem?_cons_succ, Option.some.injEq] at hi
      subst hi
      have e31 : b.tmps[31]?.getD undef = .pointer (some ⟨cb, 2, none⟩) := hW 3 31 (hpre ⟨3, .data⟩ (by simp) rfl) rfl
      refine wp_of_value (w' := wx) (v := .agg #[.slice (some ⟨sz, 0, none⟩) L cS, .slice (some ⟨vz, 0, none⟩) L cV]) ?_ ⟨_, rfl, hG, Ext.refl _ _, fun h => (by cases h), rfl⟩
      have qs : l 12 = false := haft 12 _ rfl ⟨4, .phase⟩ (by simp) rfl rfl
      have k2 : wx.cell? ⟨cb, 2, none⟩ = some (.slice (some ⟨sz, 0, none⟩) L cS) := (hG.row qs).cell (i := 2) (by omega)
      have k3 : wx.cell? ⟨cb, 3, none⟩ = some (.slice (some ⟨vz, 0, none⟩) L cV) := (hG.row qs).cell (i := 3) (by omega)
      clear hW hold hpre haft hG
      go_simp
    | 5, hi, hun, haft =>
      simp only [List.getElem?_toArray, List.getElem?_cons_zero, List.getElem?_cons_succ, Option.some.injEq] at hi
      subst hi
      have e0 : b.tmps[0]?.getD undef = .pointer (some ⟨cb, 0, none⟩) := (hold 0 (by decide)).trans ht0
      refine wp_of_value (w' := wx) (v := .pointer (some ⟨cb, 0, none⟩)) ?_ ⟨_, rfl, hG, Ext.refl _ _, fun h => (by cases h), rfl⟩
      clear hW hold hpre haft hG
      go_simp
    | 6, hi, hun, haft =>
      simp only [List.getElem?_toArray, List.getElem?_cons_zero, List.getElem?_cons_succ, Option.some.injEq] at hi
      subst hi
      have e33 : b.tmps[33]?.getD undef = .pointer (some ⟨cb, 0, none⟩) := hW 5 33 (hpre ⟨5, .data⟩ (by simp) rfl) rfl
      refine wp_of_value (w' := wx) (v := .pointer (some ⟨cb, 0, none⟩)) ?_ ⟨_, rfl, hG, Ext.refl _ _, fun h => (by cases h), rfl⟩
      clear hW hold hpre haft hG
      go_simp
    | 7, hi, hun, haft =>
      simp only [List.getElem?_toArray, List.getElem?_cons_zero, List.getElem?_cons_succ, Option.some.injEq] at hi
      subst hi
      have e34 : b.tmps[34]?.getD undef = .pointer (some ⟨cb, 0, none⟩) := hW 6 34 (hpre ⟨6, .data⟩ (by simp) rfl) rfl
      refine wp_of_value (w' := wx) (v := .pointer (some ⟨cb, 0, none⟩)) ?_ ⟨_, rfl, hG, Ext.refl _ _, fun h => (by cases h), rfl⟩
      clear hW hold hpre haft hG
      go_simp
    | 8, hi, hun, haft =>
      simp only [List.getElem?_toArray, List.getElem?_cons_zero, List.getElem?_cons_succ, Option.some.injEq] at hi
      subst hi
      have e35 : b.tmps[35]?.getD undef = .pointer (some ⟨cb, 0, none⟩) := hW 7 35 (hpre ⟨7, .data⟩ (by simp) rfl) rfl
      refine wp_of_value (w' := wx) (v := .int .i64 (room : Int)) ?_ ⟨_, rfl, hG, Ext.refl _ _, fun h => (by cases h), rfl⟩
      have qs : l 12 = false := haft 12 _ rfl ⟨8, .phase⟩ (by simp) rfl rfl
      have k0 : wx.cell? ⟨cb, 0, none⟩ = some (.int .i64 (room : Int)) := (hG.row qs).cell (i := 0) (by omega)
      clear hW hold hpre haft hG
      go_simp
    | 9, hi, hun, haft =>
      simp only [List.getElem?_toArray, List.getElem?_cons_zero, List.getElem?_cons_succ, Option.some.injEq] at hi
      subst hi
      have e32 : b.tmps[32]?.getD undef = .agg #[.slice (some ⟨sz, 0, none⟩) L cS, .slice (some ⟨vz, 0, none⟩) L cV] := hW 4 32 (hpre ⟨4, .data⟩ (by simp) rfl) rfl
      have e36 : b.tmps[36]?.getD undef = .int .i64 (room : Int) := hW 8 36 (hpre ⟨8, .data⟩ (by simp) rfl) rfl
      have hX' := ownsRow_of_block (w' := wx) hX (fun g hg => hG.keeps.block g (ownsRow_lt hX g hg) (fun e => nX (by simp [Value.ownBlock] at hg; omega)))
      have hU' := ownsRow_of_block (w' := wx) hU (fun g hg => hG.keeps.block g (ownsRow_lt hU g hg) (fun e => nV (by simp [Value.ownBlock] at hg; omega)))
      have hH := hG.keeps.size
      have q : l 12 = false := haft 12 _ rfl ⟨9, .data⟩ (by simp) rfl rfl
      refine wp_of_call (w1 := wx) (f := 29) (args := #[.agg #[.slice (some ⟨sz, 0, none⟩) L cS, .slice (some ⟨vz, 0, none⟩) L cV], .int .i64 (room : Int)]) ?_ ?_
      · clear hW hold hpre haft hG hX' hU' hH
        go_simp
      · refine (fill_any B sz vz L cS cV room xs us G wx hX' hU' hR hroom hL).mono ?_
        rintro ee w' ⟨g, rfl, hrow, hg, hk⟩
        refine ⟨_, rfl, _, rfl, ⟨hG.keeps.trans hk (fun _ _ h => h.elim), fun h => (hG.row q).of_block (hk.block cb (by omega) (fun h => h)), fun h => ?_⟩, ⟨hk.size, fun k _ hk2 => hk.block k hk2 (fun h => h)⟩, fun h => (by cases h), ⟨g, rfl, hrow, by omega⟩⟩
        simp [q] at h
    | 10, hi, hun, haft =>
      simp only [List.getElem?_toArray, List.getElem?_cons_zero, List.getElem?_cons_succ, Option.some.injEq] at hi
      subst hi
      have e28 : b.tmps[28]?.getD undef = .pointer (some ⟨cb, 0, none⟩) := hW 0 28 (hpre ⟨0, .data⟩ (by simp) rfl) rfl
      refine wp_of_value (w' := wx) (v := .pointer (some ⟨cb, 0, none⟩)) ?_ ⟨_, rfl, hG, Ext.refl _ _, fun h => (by cases h), rfl⟩
      clear hW hold hpre haft hG
      go_simp
    | 11, hi, hun, haft =>
      simp only [List.getElem?_toArray, List.getElem?_cons_zero, List.getElem?_cons_succ, Option.some.injEq] at hi
      subst hi
      have e38 : b.tmps[38]?.getD undef = .pointer (some ⟨cb, 0, none⟩) := hW 10 38 (hpre ⟨10, .data⟩ (by simp) rfl) rfl
      refine wp_of_value (w' := wx) (v := .pointer (some ⟨cb, 9, none⟩)) ?_ ⟨_, rfl, hG, Ext.refl _ _, fun h => (by cases h), rfl⟩
      clear hW hold hpre haft hG
      go_simp
    | 12, hi, hun, haft =>
      simp only [List.getElem?_toArray, List.getElem?_cons_zero, List.getElem?_cons_succ, Option.some.injEq] at hi
      subst hi
      have e39 : b.tmps[39]?.getD undef = .pointer (some ⟨cb, 9, none⟩) := hW 11 39 (hpre ⟨11, .data⟩ (by simp) rfl) rfl
      have e37 := hW 9 37 (hpre ⟨9, .data⟩ (by simp) rfl) rfl
      obtain ⟨g, e37, hrow, hg⟩ := e37
      have hr' := hG.row hun
      have k9 : wx.cell? ⟨cb, 9, none⟩ = some (.slice none 0 0) := hr'.cell (i := 9) (by omega)
      have f9 := hr'.frozen 9
      refine wp_of_skip (w' := wx.setCell ⟨cb, 9, none⟩ (.slice (some ⟨g, 0, none⟩) (room + 1) (room + 1))) ?_ ⟨_, rfl, ⟨hG.keeps.setCell (fun _ => rfl) _, fun h => (by simp at h), fun _ => ⟨g, (hr'.set 9 _).congr (fun j hj => by rcases eleven hj with rfl | rfl | rfl | rfl | rfl | rfl | rfl | rfl | rfl | rfl | rfl <;> rfl), hrow.setOther (by show g ≠ cb; omega) _, hg⟩⟩, Ext.setCell _ _ _ _ lcb, fun _ => rfl, rfl⟩
      clear hW hold hpre haft hG hrow hr'
      go_simp
    | _ + 13, hi, _, _ => simp at hi
  · intro b wx l hsz' hds' hall hW hold hG
    have hold' : ∀ t, t ∉ ([28, 29, 30, 31, 32, 33, 34, 35, 36, 37, 38, 39] : List Nat) → b.tmps[t]?.getD undef = f.tmps[t]?.getD undef := fun t ht => hold t ht
    clear hold
    obtain ⟨g, h1, h2, h3⟩ := hG.shut (hall 12 (by decide))
    exact hend b wx g hsz' hds' (fun t ht => hold' t (fun hm => by simp at hm; omega)) h1 h2 h3 hG.keeps

set_option maxRecDepth 100000 in
set_option maxHeartbeats 8000000 in
theorem c3 {Q : Exit → Act → World → Prop} (cb room left : Nat) (x y s v sw fr t : Value) (f : Act) (w : World) (hsz : f.tmps.size = 191) (hds : f.defers = [])
    (ht0 : f.tmps[0]?.getD undef = .pointer (some ⟨cb, 0, none⟩)) (hr : w.rowIs cb 59 11 (cvF room left (x) (y) (s) (v) (sw) (fr) (t) (.slice none 0 0))) (hroom : room < 64) (hleft : left ≤ 1000)
    (hend : ∀ f' w' g, f'.tmps.size = 191 → f'.defers = [] → (∀ t, t < 28 → f'.tmps[t]?.getD undef = f.tmps[t]?.getD undef) → w'.rowIs cb 59 11 (cvF room left (x) (y) (s) (v) (sw) (fr) (t) (.slice (some ⟨g, 0, none⟩) 0 left)) → w'.rowIs g 63 left (fun _ => .int .u64 0) → w.heap.size ≤ g → Keeps (fun k => k = cb) w w' → Q .normal f' w') :
    Code.wp Yba.prog ((Yba.f12.body.bind (reg 3)).getD .skip) Q f w := by
  conv => arg 2; whnf
  have lcb := hr.lt
  have hd64 : Int.tdiv (room : Int) 64 = 0 := by rw [Int.tdiv_eq_ediv_of_nonneg (by omega)]; omega
  refine ops_law (N := 191) f w (by kernel_rfl) hsz hds (fun i v wx => match i with
    | 12 => ∃ g, v = .slice (some ⟨g, 0, none⟩) 0 left ∧ wx.rowIs g 63 left (fun _ => .int .u64 0) ∧ w.heap.size ≤ g
    | i => v = (fun i => match i with
    | 0 => .pointer (some ⟨cb, 0, none⟩)
    | 1 => .pointer (some ⟨cb, 0, none⟩)
    | 2 => .pointer (some ⟨cb, 0, none⟩)
    | 3 => .pointer (some ⟨cb, 1, none⟩)
    | 4 => .int .i64 (left : Int)
    | 5 => .pointer (some ⟨cb, 0, none⟩)
    | 6 => .pointer (some ⟨cb, 0, none⟩)
    | 7 => .pointer (some ⟨cb, 0, none⟩)
    | 8 => .int .i64 (room : Int)
    | 9 => .int .i64 0
    | 10 => .int .i64 1
    | 11 => .int .i64 (left : Int)
    | 13 => .pointer (some ⟨cb, 0, none⟩)
    | 14 => .pointer (some ⟨cb, 10, none⟩)
    | 15 => undef
    | _ => undef : Nat → Value) i) (fun l wx => GS cb (cvF room left (x) (y) (s) (v) (sw) (fr) (t) (.slice none 0 0)) (fun wx => ∃ g, wx.rowIs cb 59 11 (cvF room left (x) (y) (s) (v) (sw) (fr) (t) (.slice (some ⟨g, 0, none⟩) 0 left)) ∧ wx.rowIs g 63 left (fun _ => .int .u64 0) ∧ w.heap.size ≤ g) w (l 15) wx) w.heap.size ?_ ⟨(Keeps.refl _ _).drew, fun _ => World.rowIs.drew hr, fun h => (by cases h)⟩ ?_ ?_
  · intro i v wx wx' hg h
    split at h
    · obtain ⟨g, h1, h2, h3⟩ := h
      exact ⟨g, h1, h2.of_block (hg.block g h3 h2.lt), h3⟩
    · exact h
  · intro i o hi l b wx hun haft hpre hW hold hG
    match i, hi, hun, haft with
    | 0, hi, hun, haft =>
      simp only [List.getElem?_toArray, List.getElem?_cons_zero, List.getElem?_cons_succ, Option.some.injEq] at hi
      subst hi
      have e0 : b.tmps[0]?.getD undef = .pointer (some ⟨cb, 0, none⟩) := (hold 0 (by decide)).trans ht0
      refine wp_of_value (w' := wx) (v := .pointer (some ⟨cb, 0, none⟩)) ?_ ⟨_, rfl, hG, Ext.refl _ _, fun h => (by cases h), rfl⟩
      clear hW hold hpre haft hG
      go_simp
    | 1, hi, hun, haft =>
      simp only [List.getElem?_toArray, List.getElem?_cons_zero, List.getElem?_cons_succ, Option.some.injEq] at hi
      subst hi
      have e0 : b.tmps[0]?.getD undef = .pointer (some ⟨cb, 0, none⟩) := (hold 0 (by decide)).trans ht0
      refine wp_of_value (w' := wx) (v := .pointer (some ⟨cb, 0, none⟩)) ?_ ⟨_, rfl, hG, Ext.refl _ _, fun h => (by cases h), rfl⟩
      clear hW hold hpre haft hG
      go_simp
    | 2, hi, hun, haft =>
      simp only [List.getElem?_toArray, List.getElem?_cons_zero, List.getElem?_cons_succ, Option.some.injEq] at hi
      subst hi
      have e41 : b.tmps[41]?.getD undef = .pointer (some ⟨cb, 0, none⟩) := hW 1 41 (hpre ⟨1, .data⟩ (by simp) rfl) rfl
      refine wp_of_value (w' := wx) (v := .pointer (some ⟨cb, 0, none⟩)) ?_ ⟨_, rfl, hG, Ext.refl _ _, fun h => (by cases h), rfl⟩
      clear hW hold hpre haft hG
      go_simp
    | 3, hi, hun, haft =>
      simp only [List.getElem?_toArray, List.getElem?_cons_zero, List.getElem?_cons_succ, Option.some.injEq] at hi
      subst hi
      have e42 : b.tmps[42]?.getD undef = .pointer (some ⟨cb, 0, none⟩) := hW 2 42 (hpre ⟨2, .data⟩ (by simp) rfl) rfl
      refine wp_of_value (w' := wx) (v := .pointer (some ⟨cb, 1, none⟩)) ?_ ⟨_, rfl, hG, Ext.refl _ _, fun h => (by cases h), rfl⟩
      clear hW hold hpre haft hG
      go_simp
    | 4, hi, hun, haft =>
      simp only [List.getElem?_toArray, List.getElem?_cons_zero, List.getElem?_cons_succ, Option.some.injEq] at hi
      subst hi
      have e43 : b.tmps[43]?.getD undef = .pointer (some ⟨cb, 1, none⟩) := hW 3 43 (hpre ⟨3, .data⟩ (by simp) rfl) rfl
      refine wp_of_value (w' := wx) (v := .int .i64 (left : Int)) ?_ ⟨_, rfl, hG, Ext.refl _ _, fun h => (by cases h), rfl⟩
      have qs : l 15 = false := haft 15 _ rfl ⟨4, .phase⟩ (by simp) rfl rfl
      have k1 : wx.cell? ⟨cb, 1, none⟩ = some (.int .i64 (left : Int)) := (hG.row qs).cell (i := 1) (by omega)
      clear hW hold hpre haft hG
      go_simp
    | 5, hi, hun, haft =>
      simp only [List.getElem?_toArray, List.getElem?_cons_zero, List.getElem?_cons_succ, Option.some.injEq] at hi
      subst hi
      have e0 : b.tmps[0]?.getD undef = .pointer (some ⟨cb, 0, none⟩) := (hold 0 (by decide)).trans ht0
      refine wp_of_value (w' := wx) (v := .pointer (some ⟨cb, 0, none⟩)) ?_ ⟨_, rfl, hG, Ext.refl _ _, fun h => (by cases h), rfl⟩
      clear hW hold hpre haft hG
      go_simp
    | 6, hi, hun, haft =>
      simp only [List.getElem?_toArray, List.getElem?_cons_zero, List.getElem?_cons_succ, Option.some.injEq] at hi
      subst hi
      have e45 : b.tmps[45]?.getD undef = .pointer (some ⟨cb, 0, none⟩) := hW 5 45 (hpre ⟨5, .data⟩ (by simp) rfl) rfl
      refine wp_of_value (w' := wx) (v := .pointer (some ⟨cb, 0, none⟩)) ?_ ⟨_, rfl, hG, Ext.refl _ _, fun h => (by cases h), rfl⟩
      clear hW hold hpre haft hG
      go_simp
    | 7, hi, hun, haft =>
      simp only [List.getElem?_toArray, List.getElem?_cons_zero, List.getElem?_cons_succ, Option.some.injEq] at hi
      subst hi
      have e46 : b.tmps[46]?.getD undef = .pointer (some ⟨cb, 0, none⟩) := hW 6 46 (hpre ⟨6, .data⟩ (by simp) rfl) rfl
      refine wp_of_value (w' := wx) (v := .pointer (some ⟨cb, 0, none⟩)) ?_ ⟨_, rfl, hG, Ext.refl _ _, fun h => (by cases h), rfl⟩
      clear hW hold hpre haft hG
      go_simp
    | 8, hi, hun, haft =>
      simp only [List.getElem?_toArray, List.getElem?_cons_zero, List.getElem?_cons_succ, Option.some.injEq] at hi
      subst hi
      have e47 : b.tmps[47]?.getD undef = .pointer (some ⟨cb, 0, none⟩) := hW 7 47 (hpre ⟨7, .data⟩ (by simp) rfl) rfl
      refine wp_of_value (w' := wx) (v := .int .i64 (room : Int)) ?_ ⟨_, rfl, hG, Ext.refl _ _, fun h => (by cases h), rfl⟩
      have qs : l 15 = false := haft 15 _ rfl ⟨8, .phase⟩ (by simp) rfl rfl
      have k0 : wx.cell? ⟨cb, 0, none⟩ = some (.int .i64 (room : Int)) := (hG.row qs).cell (i := 0) (by omega)
      clear hW hold hpre haft hG
      go_simp
    | 9, hi, hun, haft =>
      simp only [List.getElem?_toArray, List.getElem?_cons_zero, List.getElem?_cons_succ, Option.some.injEq] at hi
      subst hi
      have e48 : b.tmps[48]?.getD undef = .int .i64 (room : Int) := hW 8 48 (hpre ⟨8, .data⟩ (by simp) rfl) rfl
      refine wp_of_value (w' := wx) (v := .int .i64 0) ?_ ⟨_, rfl, hG, Ext.refl _ _, fun h => (by cases h), rfl⟩
      clear hW hold hpre haft hG
      go_simp
      rfl
    | 10, hi, hun, haft =>
      simp only [List.getElem?_toArray, List.getElem?_cons_zero, List.getElem?_cons_succ, Option.some.injEq] at hi
      subst hi
      have e49 : b.tmps[49]?.getD undef = .int .i64 0 := hW 9 49 (hpre ⟨9, .data⟩ (by simp) rfl) rfl
      refine wp_of_value (w' := wx) (v := .int .i64 1) ?_ ⟨_, rfl, hG, Ext.refl _ _, fun h => (by cases h), rfl⟩
      clear hW hold hpre haft hG
      go_simp
      rfl
    | 11, hi, hun, haft =>
      simp only [List.getElem?_toArray, List.getElem?_cons_zero, List.getElem?_cons_succ, Option.some.injEq] at hi
      subst hi
      have e44 : b.tmps[44]?.getD undef = .int .i64 (left : Int) := hW 4 44 (hpre ⟨4, .data⟩ (by simp) rfl) rfl
      have e50 : b.tmps[50]?.getD undef = .int .i64 1 := hW 10 50 (hpre ⟨10, .data⟩ (by simp) rfl) rfl
      refine wp_of_value (w' := wx) (v := .int .i64 (left : Int)) ?_ ⟨_, rfl, hG, Ext.refl _ _, fun h => (by cases h), rfl⟩
      clear hW hold hpre haft hG
      go_simp
      rw [IntKind.wrap_i64]; omega
    | 12, hi, hun, haft =>
      simp only [List.getElem?_toArray, List.getElem?_cons_zero, List.getElem?_cons_succ, Option.some.injEq] at hi
      subst hi
      have e51 : b.tmps[51]?.getD undef = .int .i64 (left : Int) := hW 11 51 (hpre ⟨11, .data⟩ (by simp) rfl) rfl
      have q : l 15 = false := haft 15 _ rfl ⟨12, .data⟩ (by simp) rfl rfl
      have hmk := made_u wx left hleft
      have hH := hG.keeps.size
      refine wp_of_value (w' := wx.alloc (.cells (madeCells #[.int .u64 0] left) 63)) (v := .slice (some ⟨wx.heap.size, 0, none⟩) 0 left) ?_ ⟨_, rfl, ⟨hG.keeps.alloc _, fun h => (hG.row q).alloc _, fun h => ?_⟩, Ext.alloc _ _ _, fun h => (by cases h), ⟨_, rfl, World.rowIs_made wx (.int .u64 0) left 63, hH⟩⟩
      · clear hW hold hpre haft hG
        go_simp
      · simp [q] at h
    | 13, hi, hun, haft =>
      simp only [List.getElem?_toArray, List.getElem?_cons_zero, List.getElem?_cons_succ, Option.some.injEq] at hi
      subst hi
      have e40 : b.tmps[40]?.getD undef = .pointer (some ⟨cb, 0, none⟩) := hW 0 40 (hpre ⟨0, .data⟩ (by simp) rfl) rfl
      refine wp_of_value (w' := wx) (v := .pointer (some ⟨cb, 0, none⟩)) ?_ ⟨_, rfl, hG, Ext.refl _ _, fun h => (by cases h), rfl⟩
      clear hW hold hpre haft hG
      go_simp
    | 14, hi, hun, haft =>
      simp only [List.getElem?_toArray, List.getElem?_cons_zero, List.getElem?_cons_succ, Option.some.injEq] at hi
      subst hi
      have e53 : b.tmps[53]?.getD undef = .pointer (some ⟨cb, 0, none⟩) := hW 13 53 (hpre ⟨13, .data⟩ (by simp) rfl) rfl
      refine wp_of_value (w' := wx) (v := .pointer (some ⟨cb, 10, none⟩)) ?_ ⟨_, rfl, hG, Ext.refl _ _, fun h => (by cases h), rfl⟩
      clear hW hold hpre haft hG
      go_simp
    | 15, hi, hun, haft =>
      simp only [List.getElem?_toArray, List.getElem?_cons_zero, List.getElem?_cons_succ, Option.some.injEq] at hi
      subst hi
      have e54 : b.tmps[54]?.getD undef = .pointer (some ⟨cb, 10, none⟩) := hW 14 54 (hpre ⟨14, .data⟩ (by simp) rfl) rfl
      have e52 := hW 12 52 (hpre ⟨12, .data⟩ (by simp) rfl) rfl
      obtain ⟨g, e52, hrow, hg⟩ := e52
      have hr' := hG.row hun
      have k9 : wx.cell? ⟨cb, 10, none⟩ = some (.slice none 0 0) := hr'.cell (i := 10) (by omega)
      have f9 := hr'.frozen 10
      refine wp_of_skip (w' := wx.setCell ⟨cb, 10, none⟩ (.slice (some ⟨g, 0, none⟩) 0 left)) ?_ ⟨_, rfl, ⟨hG.keeps.setCell (fun _ => rfl) _, fun h => (by simp at h), fun _ => ⟨g, (hr'.set 10 _).congr (fun j hj => by rcases eleven hj with rfl | rfl | rfl | rfl | rfl | rfl | rfl | rfl | rfl | rfl | rfl <;> rfl), hrow.setOther (by show g ≠ cb; omega) _, hg⟩⟩, Ext.setCell _ _ _ _ lcb, fun _ => rfl, rfl⟩
      clear hW hold hpre haft hG hrow hr'
      go_simp
    | _ + 16, hi, _, _ => simp at hi
  · intro b wx l hsz' hds' hall hW hold hG
    have hold' : ∀ t, t ∉ ([40, 41, 42, 43, 44, 45, 46, 47, 48, 49, 50, 51, 52, 53, 54] : List Nat) → b.tmps[t]?.getD undef = f.tmps[t]?.getD undef := fun t ht => hold t ht
    clear hold
    obtain ⟨g, h1, h2, h3⟩ := hG.shut (hall 15 (by decide))
    exact hend b wx g hsz' hds' (fun t ht => hold' t (fun hm => by simp at hm; omega)) h1 h2 h3 hG.keeps

structure G7 (cb : Nat) (f0 f1 f2 : Nat → Value) (w : World) (a b : Bool) (wx : World) : Prop where
  keeps : Keeps (fun k => k = cb) w wx
  row : a = false ∧ b = false → wx.rowIs cb 59 11 f0
  mid : a = true ∧ b = false → wx.rowIs cb 59 11 f1
  shut : b = true → wx.rowIs cb 59 11 f2

set_option maxRecDepth 100000 in
set_option maxHeartbeats 8000000 in
theorem c7 {Q : Exit → Act → World → Prop} (cb room left sz vz n1 n2 cS cV nS cdS nV cdV : Nat) (aS aV : Option Addr) (sw fr t k : Value) (f : Act) (w : World) (hsz : f.tmps.size = 191) (hds : f.defers = [])
    (ht0 : f.tmps[0]?.getD undef = .pointer (some ⟨cb, 0, none⟩)) (hr : w.rowIs cb 59 11 (cvF room left (.slice (some ⟨sz, 0, none⟩) n1 cS) (.slice (some ⟨vz, 0, none⟩) n2 cV) (.slice aS nS cdS) (.slice aV nV cdV) (sw) (fr) (t) (k)))
    (hend : ∀ f' w', f'.tmps.size = 191 → f'.defers = [] → (∀ t, t < 68 → f'.tmps[t]?.getD undef = f.tmps[t]?.getD undef) → w'.rowIs cb 59 11 (cvF room left (.slice aS nS cdS) (.slice aV nV cdV) (.slice (some ⟨sz, 0, none⟩) n1 cS) (.slice (some ⟨vz, 0, none⟩) n2 cV) (sw) (fr) (t) (k)) → Keeps (fun k => k = cb) w w' → Q .normal f' w') :
    Code.wp Yba.prog ((Yba.f12.body.bind (reg 7)).getD .skip) Q f w := by
  conv => arg 2; whnf
  have lcb := hr.lt
  refine ops_law (N := 191) f w (by kernel_rfl) hsz hds (fun i v wx => match i with
    | i => v = (fun i => match i with
    | 0 => .pointer (some ⟨cb, 0, none⟩)
    | 1 => .pointer (some ⟨cb, 0, none⟩)
    | 2 => .pointer (some ⟨cb, 0, none⟩)
    | 3 => .pointer (some ⟨cb, 0, none⟩)
    | 4 => .pointer (some ⟨cb, 4, none⟩)
    | 5 => .agg #[.slice aS nS cdS, .slice aV nV cdV]
    | 6 => .pointer (some ⟨cb, 0, none⟩)
    | 7 => .pointer (some ⟨cb, 0, none⟩)
    | 8 => .pointer (some ⟨cb, 2, none⟩)
    | 9 => .agg #[.slice (some ⟨sz, 0, none⟩) n1 cS, .slice (some ⟨vz, 0, none⟩) n2 cV]
    | 10 => .pointer (some ⟨cb, 0, none⟩)
    | 11 => .pointer (some ⟨cb, 2, none⟩)
    | 12 => undef
    | 13 => .pointer (some ⟨cb, 0, none⟩)
    | 14 => .pointer (some ⟨cb, 4, none⟩)
    | 15 => undef
    | _ => undef : Nat → Value) i) (fun l wx => G7 cb (cvF room left (.slice (some ⟨sz, 0, none⟩) n1 cS) (.slice (some ⟨vz, 0, none⟩) n2 cV) (.slice aS nS cdS) (.slice aV nV cdV) (sw) (fr) (t) (k)) (cvF room left (.slice aS nS cdS) (.slice aV nV cdV) (.slice aS nS cdS) (.slice aV nV cdV) (sw) (fr) (t) (k)) (cvF room left (.slice aS nS cdS) (.slice aV nV cdV) (.slice (some ⟨sz, 0, none⟩) n1 cS) (.slice (some ⟨vz, 0, none⟩) n2 cV) (sw) (fr) (t) (k)) w (l 12) (l 15) wx) w.heap.size ?_ ⟨(Keeps.refl _ _).drew, fun _ => World.rowIs.drew hr, fun h => (by cases h.1), fun h => (by cases h)⟩ ?_ ?_
  · intro i v wx wx' hg h
    exact h
  · intro i o hi l b wx hun haft hpre hW hold hG
    match i, hi, hun, haft with
    | 0, hi, hun, haft =>
      simp only [List.getElem?_toArray, List.getElem?_cons_zero, List.getElem?_cons_succ, Option.some.injEq] at hi
      subst hi
      have e0 : b.tmps[0]?.getD undef = .pointer (some ⟨cb, 0, none⟩) := (hold 0 (by decide)).trans ht0
      refine wp_of_value (w' := wx) (v := .pointer (some ⟨cb, 0, none⟩)) ?_ ⟨_, rfl, hG, Ext.refl _ _, fun h => (by cases h), rfl⟩
      clear hW hold hpre haft hG
      go_simp
    | 1, hi, hun, haft =>
      simp only [List.getElem?_toArray, List.getElem?_cons_zero, List.getElem?_cons_succ, Option.some.injEq] at hi
      subst hi
      have e0 : b.tmps[0]?.getD undef = .pointer (some ⟨cb, 0, none⟩) := (hold 0 (by decide)).trans ht0
      refine wp_of_value (w' := wx) (v := .pointer (some ⟨cb, 0, none⟩)) ?_ ⟨_, rfl, hG, Ext.refl _ _, fun h => (by cases h), rfl⟩
      clear hW hold hpre haft hG
      go_simp
    | 2, hi, hun, haft =>
      simp only [List.getElem?_toArray, List.getElem?_cons_zero, List.getElem?_cons_succ, Option.some.injEq] at hi
      subst hi
      have e0 : b.tmps[0]?.getD undef = .pointer (some ⟨cb, 0, none⟩) := (hold 0 (by decide)).trans ht0
      refine wp_of_value (w' := wx) (v := .pointer (some ⟨cb, 0, none⟩)) ?_ ⟨_, rfl, hG, Ext.refl _ _, fun h => (by cases h), rfl⟩
      clear hW hold hpre haft hG
      go_simp
    | 3, hi, hun, haft =>
      simp only [List.getElem?_toArray, List.getElem?_cons_zero, List.getElem?_cons_succ, Option.some.injEq] at hi
      subst hi
      have e96 : b.tmps[96]?.getD undef = .pointer (some ⟨cb, 0, none⟩) := hW 2 96 (hpre ⟨2, .data⟩ (by simp) rfl) rfl
      refine wp_of_value (w' := wx) (v := .pointer (some ⟨cb, 0, none⟩)) ?_ ⟨_, rfl, hG, Ext.refl _ _, fun h => (by cases h), rfl⟩
      clear hW hold hpre haft hG
      go_simp
    | 4, hi, hun, haft =>
      simp only [List.getElem?_toArray, List.getElem?_cons_zero, List.getElem?_cons_succ, Option.some.injEq] at hi
      subst hi
      have e97 : b.tmps[97]?.getD undef = .pointer (some ⟨cb, 0, none⟩) := hW 3 97 (hpre ⟨3, .data⟩ (by simp) rfl) rfl
      refine wp_of_value (w' := wx) (v := .pointer (some ⟨cb, 4, none⟩)) ?_ ⟨_, rfl, hG, Ext.refl _ _, fun h => (by cases h), rfl⟩
      clear hW hold hpre haft hG
      go_simp
    | 5, hi, hun, haft =>
      simp only [List.getElem?_toArray, List.getElem?_cons_zero, List.getElem?_cons_succ, Option.some.injEq] at hi
      subst hi
      have e98 : b.tmps[98]?.getD undef = .pointer (some ⟨cb, 4, none⟩) := hW 4 98 (hpre ⟨4, .data⟩ (by simp) rfl) rfl
      refine wp_of_value (w' := wx) (v := .agg #[.slice aS nS cdS, .slice aV nV cdV]) ?_ ⟨_, rfl, hG, Ext.refl _ _, fun h => (by cases h), rfl⟩
      have qs : l 12 = false := haft 12 _ rfl ⟨5, .phase⟩ (by simp) rfl rfl
      have qs2 : l 15 = false := haft 15 _ rfl ⟨5, .phase⟩ (by simp) rfl rfl
      have k4 : wx.cell? ⟨cb, 4, none⟩ = some (.slice aS nS cdS) := (hG.row ⟨qs, qs2⟩).cell (i := 4) (by omega)
      have k5 : wx.cell? ⟨cb, 5, none⟩ = some (.slice aV nV cdV) := (hG.row ⟨qs, qs2⟩).cell (i := 5) (by omega)
      clear hW hold hpre haft hG
      go_simp
    | 6, hi, hun, haft =>
      simp only [List.getElem?_toArray, List.getElem?_cons_zero, List.getElem?_cons_succ, Option.some.injEq] at hi
      subst hi
      have e0 : b.tmps[0]?.getD undef = .pointer (some ⟨cb, 0, none⟩) := (hold 0 (by decide)).trans ht0
      refine wp_of_value (w' := wx) (v := .pointer (some ⟨cb, 0, none⟩)) ?_ ⟨_, rfl, hG, Ext.refl _ _, fun h => (by cases h), rfl⟩
      clear hW hold hpre haft hG
      go_simp
    | 7, hi, hun, haft =>
      simp only [List.getElem?_toArray, List.getElem?_cons_zero, List.getElem?_cons_succ, Option.some.injEq] at hi
      subst hi
      have e100 : b.tmps[100]?.getD undef = .pointer (some ⟨cb, 0, none⟩) := hW 6 100 (hpre ⟨6, .data⟩ (by simp) rfl) rfl
      refine wp_of_value (w' := wx) (v := .pointer (some ⟨cb, 0, none⟩)) ?_ ⟨_, rfl, hG, Ext.refl _ _, fun h => (by cases h), rfl⟩
      clear hW hold hpre haft hG
      go_simp
    | 8, hi, hun, haft =>
      simp only [List.getElem?_toArray, List.getElem?_cons_zero, List.getElem?_cons_succ, Option.some.injEq] at hi
      subst hi
      have e101 : b.tmps[101]?.getD undef = .pointer (some ⟨cb, 0, none⟩) := hW 7 101 (hpre ⟨7, .data⟩ (by simp) rfl) rfl
      refine wp_of_value (w' := wx) (v := .pointer (some ⟨cb, 2, none⟩)) ?_ ⟨_, rfl, hG, Ext.refl _ _, fun h => (by cases h), rfl⟩
      clear hW hold hpre haft hG
      go_simp
    | 9, hi, hun, haft =>
      simp only [List.getElem?_toArray, List.getElem?_cons_zero, List.getElem?_cons_succ, Option.some.injEq] at hi
      subst hi
      have e102 : b.tmps[102]?.getD undef = .pointer (some ⟨cb, 2, none⟩) := hW 8 102 (hpre ⟨8, .data⟩ (by simp) rfl) rfl
      refine wp_of_value (w' := wx) (v := .agg #[.slice (some ⟨sz, 0, none⟩) n1 cS, .slice (some ⟨vz, 0, none⟩) n2 cV]) ?_ ⟨_, rfl, hG, Ext.refl _ _, fun h => (by cases h), rfl⟩
      have qs : l 12 = false := haft 12 _ rfl ⟨9, .phase⟩ (by simp) rfl rfl
      have qs2 : l 15 = false := haft 15 _ rfl ⟨9, .phase⟩ (by simp) rfl rfl
      have k2 : wx.cell? ⟨cb, 2, none⟩ = some (.slice (some ⟨sz, 0, none⟩) n1 cS) := (hG.row ⟨qs, qs2⟩).cell (i := 2) (by omega)
      have k3 : wx.cell? ⟨cb, 3, none⟩ = some (.slice (some ⟨vz, 0, none⟩) n2 cV) := (hG.row ⟨qs, qs2⟩).cell (i := 3) (by omega)
      clear hW hold hpre haft hG
      go_simp
    | 10, hi, hun, haft =>
      simp only [List.getElem?_toArray, List.getElem?_cons_zero, List.getElem?_cons_succ, Option.some.injEq] at hi
      subst hi
      have e94 : b.tmps[94]?.getD undef = .pointer (some ⟨cb, 0, none⟩) := hW 0 94 (hpre ⟨0, .data⟩ (by simp) rfl) rfl
      refine wp_of_value (w' := wx) (v := .pointer (some ⟨cb, 0, none⟩)) ?_ ⟨_, rfl, hG, Ext.refl _ _, fun h => (by cases h), rfl⟩
      clear hW hold hpre haft hG
      go_simp
    | 11, hi, hun, haft =>
      simp only [List.getElem?_toArray, List.getElem?_cons_zero, List.getElem?_cons_succ, Option.some.injEq] at hi
      subst hi
      have e104 : b.tmps[104]?.getD undef = .pointer (some ⟨cb, 0, none⟩) := hW 10 104 (hpre ⟨10, .data⟩ (by simp) rfl) rfl
      refine wp_of_value (w' := wx) (v := .pointer (some ⟨cb, 2, none⟩)) ?_ ⟨_, rfl, hG, Ext.refl _ _, fun h => (by cases h), rfl⟩
      clear hW hold hpre haft hG
      go_simp
    | 12, hi, hun, haft =>
      simp only [List.getElem?_toArray, List.getElem?_cons_zero, List.getElem?_cons_succ, Option.some.injEq] at hi
      subst hi
      have e105 : b.tmps[105]?.getD undef = .pointer (some ⟨cb, 2, none⟩) := hW 11 105 (hpre ⟨11, .data⟩ (by simp) rfl) rfl
      have e99 : b.tmps[99]?.getD undef = .agg #[.slice aS nS cdS, .slice aV nV cdV] := hW 5 99 (hpre ⟨5, .data⟩ (by simp) rfl) rfl
      have q : l 15 = false := haft 15 _ rfl ⟨12, .chain⟩ (by simp) rfl rfl
      have hr' := hG.row ⟨hun, q⟩
      have k2 : wx.cell? ⟨cb, 2, none⟩ = some (.slice (some ⟨sz, 0, none⟩) n1 cS) := hr'.cell (i := 2) (by omega)
      have k3 : wx.cell? ⟨cb, 3, none⟩ = some (.slice (some ⟨vz, 0, none⟩) n2 cV) := hr'.cell (i := 3) (by omega)
      have f2 := hr'.frozen 2
      have f3 := hr'.frozen 3
      refine wp_of_skip (w' := (wx.setCell ⟨cb, 2, none⟩ (.slice aS nS cdS)).setCell ⟨cb, 3, none⟩ (.slice aV nV cdV)) ?_ ⟨_, rfl, ⟨(hG.keeps.setCell (fun _ => rfl) _).setCell (fun _ => rfl) _, fun h => (by simp at h), fun _ => ((hr'.set 2 _).set 3 _).congr (fun j hj => by rcases eleven hj with rfl | rfl | rfl | rfl | rfl | rfl | rfl | rfl | rfl | rfl | rfl <;> rfl), fun h => ?_⟩, ⟨by simp, fun k hk _ => (Below.heap_setCell _ _ _ _ (by show k ≠ cb; omega)).trans (Below.heap_setCell _ _ _ _ (by show k ≠ cb; omega))⟩, fun _ => rfl, rfl⟩
      · clear hW hold hpre haft hG hr'
        go_simp
      · simp [q] at h
    | 13, hi, hun, haft =>
      simp only [List.getElem?_toArray, List.getElem?_cons_zero, List.getElem?_cons_succ, Option.some.injEq] at hi
      subst hi
      have e95 : b.tmps[95]?.getD undef = .pointer (some ⟨cb, 0, none⟩) := hW 1 95 (hpre ⟨1, .data⟩ (by simp) rfl) rfl
      refine wp_of_value (w' := wx) (v := .pointer (some ⟨cb, 0, none⟩)) ?_ ⟨_, rfl, hG, Ext.refl _ _, fun h => (by cases h), rfl⟩
      clear hW hold hpre haft hG
      go_simp
    | 14, hi, hun, haft =>
      simp only [List.getElem?_toArray, List.getElem?_cons_zero, List.getElem?_cons_succ, Option.some.injEq] at hi
      subst hi
      have e106 : b.tmps[106]?.getD undef = .pointer (some ⟨cb, 0, none⟩) := hW 13 106 (hpre ⟨13, .data⟩ (by simp) rfl) rfl
      refine wp_of_value (w' := wx) (v := .pointer (some ⟨cb, 4, none⟩)) ?_ ⟨_, rfl, hG, Ext.refl _ _, fun h => (by cases h), rfl⟩
      clear hW hold hpre haft hG
      go_simp
    | 15, hi, hun, haft =>
      simp only [List.getElem?_toArray, List.getElem?_cons_zero, List.getElem?_cons_succ, Option.some.injEq] at hi
      subst hi
      have e107 : b.tmps[107]?.getD undef = .pointer (some ⟨cb, 4, none⟩) := hW 14 107 (hpre ⟨14, .data⟩ (by simp) rfl) rfl
      have e103 : b.tmps[103]?.getD undef = .agg #[.slice (some ⟨sz, 0, none⟩) n1 cS, .slice (some ⟨vz, 0, none⟩) n2 cV] := hW 9 103 (hpre ⟨9, .data⟩ (by simp) rfl) rfl
      have q : l 12 = true := hpre ⟨12, .chain⟩ (by simp) rfl
      have hr' := hG.mid ⟨q, hun⟩
      have k2 : wx.cell? ⟨cb, 4, none⟩ = some (.slice aS nS cdS) := hr'.cell (i := 4) (by omega)
      have k3 : wx.cell? ⟨cb, 5, none⟩ = some (.slice aV nV cdV) := hr'.cell (i := 5) (by omega)
      have f2 := hr'.frozen 4
      have f3 := hr'.frozen 5
      refine wp_of_skip (w' := (wx.setCell ⟨cb, 4, none⟩ (.slice (some ⟨sz, 0, none⟩) n1 cS)).setCell ⟨cb, 5, none⟩ (.slice (some ⟨vz, 0, none⟩) n2 cV)) ?_ ⟨_, rfl, ⟨(hG.keeps.setCell (fun _ => rfl) _).setCell (fun _ => rfl) _, fun h => ?_, fun h => ?_, fun _ => ((hr'.set 4 _).set 5 _).congr (fun j hj => by rcases eleven hj with rfl | rfl | rfl | rfl | rfl | rfl | rfl | rfl | rfl | rfl | rfl <;> rfl)⟩, ⟨by simp, fun k hk _ => (Below.heap_setCell _ _ _ _ (by show k ≠ cb; omega)).trans (Below.heap_setCell _ _ _ _ (by show k ≠ cb; omega))⟩, fun _ => rfl, rfl⟩
      · clear hW hold hpre haft hG hr'
        go_simp
      · simp at h
      · simp at h
    | _ + 16, hi, _, _ => simp at hi
  · intro b wx l hsz' hds' hall hW hold hG
    have hold' : ∀ t, t ∉ ([94, 95, 96, 97, 98, 99, 100, 101, 102, 103, 104, 105, 106, 107] : List Nat) → b.tmps[t]?.getD undef = f.tmps[t]?.getD undef := fun t ht => hold t ht
    clear hold
    exact hend b wx hsz' hds' (fun t ht => hold' t (fun hm => by simp at hm; omega)) (hG.shut (hall 15 (by decide))) hG.keeps
end Go.Proofs.Ybulkbnbu.Kn
