/-
  The curve's 'add' (function 12), while it is a staircase.
-/
import Derived.Test.YbulkbnbuCv
namespace Go.Proofs.Ybulkbnbu.Kn
set_option linter.unusedSimpArgs false
set_option linter.unusedVariables false
open Go.ChangeShapes Go.WideShapes Go.ChangeAt Go.RowKit
open Go.Proofs.Ybulkbnbu.Fl Go.Proofs.Ybulkbnbu.Pl
attribute [local go_sem] run_store_float

theorem md_bd {xs us : List Nat} {room s : Nat} (h : Md xs us) (hl : xs.length ≤ room / 16) (hroom : room ≤ 47) (hs : s ≤ 7) : (∀ x ∈ xs, x + s ≤ room) ∧ (∀ u ∈ us, u < 1000) := by
  rcases h with ⟨rfl, rfl⟩ | ⟨a, u, rfl, rfl, ha, ha7, hu, hu9⟩ | ⟨h3, h4, h5⟩
  · simp at hl
    refine ⟨fun x hx => ?_, fun u hu => ?_⟩
    · simp at hx; subst hx; omega
    · simp at hu; subst hu; omega
  · simp at hl
    refine ⟨fun x hx => ?_, fun u hu => ?_⟩
    · simp at hx; rcases hx with rfl | rfl <;> omega
    · simp at hu; rcases hu with rfl | rfl <;> omega
  · omega
theorem own_cb {w : World} {B e n cb j : Nat} {v u : Value} {ys : List Value} {f : Nat → Value} (h : w.ownsRow B e 1 v n ys) (hr : w.rowIs cb 59 11 f) (he : e ≠ 59) : (w.setCell ⟨cb, j, none⟩ u).ownsRow B e 1 v n ys := by
  obtain ⟨tc, htc⟩ := row_tag hr
  exact ownsRow_of_block h (fun g hg => Below.heap_setCell _ _ _ _ ((tag_ne htc (ownsRow_tag h g hg).2.choose_spec (Ne.symm he)).symm))
theorem CS.left {B cb room left m : Nat} {sf vf : Nat → Nat} {d : Sd} {w : World} (h : CS B cb room (left + 1) m sf vf d w) : CS B cb room left m sf vf d (w.setCell ⟨cb, 1, none⟩ (.int .i64 (left : Int))) :=
  ⟨(h.row.set 1 _).congr (fun j hj => by rcases eleven hj with rfl | rfl | rfl | rfl | rfl | rfl | rfl | rfl | rfl | rfl | rfl <;> rfl), own_cb h.oX h.row (by decide), own_cb h.oU h.row (by decide), own_cb h.oS h.row (by decide), own_cb h.oV h.row (by decide), own_cb h.oW h.row (by decide), own_cb h.oF h.row (by decide), h.rep, h.md, h.tk, h.d1, h.d2, h.d3, h.d4, h.d5, h.d6, h.d7, h.hcb, by have := h.hB; simpa using this⟩
/-- Rows of unlike make lie apart. -/
theorem apart {w : World} {B e e' n n' c : Nat} {a : Option Addr} {v : Value} {ys ys' : List Value} (h : w.ownsRow B e 1 (.slice a n c) n ys) (h' : w.ownsRow B e' 1 v n' ys') (he : e ≠ e') (g : Nat) (hg : v.ownBlock = some g) : a ≠ some ⟨g, 0, none⟩ := by
  rintro rfl
  exact tag_ne (ownsRow_tag h g rfl).2.choose_spec (ownsRow_tag h' g hg).2.choose_spec he rfl
theorem apart_cb {w : World} {B e n c cb : Nat} {a : Option Addr} {f : Nat → Value} {ys : List Value} (h : w.ownsRow B e 1 (.slice a n c) n ys) (hr : w.rowIs cb 59 11 f) (he : e ≠ 59) : a ≠ some ⟨cb, 0, none⟩ := by
  rintro rfl
  obtain ⟨tc, htc⟩ := row_tag hr
  exact tag_ne (ownsRow_tag h cb rfl).2.choose_spec htc he rfl
theorem own_keep {w w' : World} {B e n g c : Nat} {D : Nat → Prop} {ys : List Value} (h : w.ownsRow B e 1 (.slice (some ⟨g, 0, none⟩) n c) n ys) (hk : Keeps D w w') (hd : ¬ D g) : w'.ownsRow B e 1 (.slice (some ⟨g, 0, none⟩) n c) n ys :=
  ownsRow_of_block h (fun k hk' => by simp [Value.ownBlock] at hk'; subst hk'; exact hk.block g (ownsRow_lt h g rfl) hd)

set_option maxRecDepth 100000 in
set_option maxHeartbeats 8000000 in
theorem add_stair (B cb room left m s v : Nat) (sf vf : Nat → Nat) (d : Sd) (w : World) (hC : CS B cb room (left + 1) m sf vf d w) (hl : d.xs.length ≤ room / 16) (hroom : room ≤ 47) (hleft : left < 1000) (hm : m < 100) (hsf : sf m = s) (hvf : vf m = v) (hs : 1 ≤ s) (hs7 : s ≤ 7) (hv9 : v ≤ 9) :
    Calls Yba.prog 12 #[.pointer (some ⟨cb, 0, none⟩), .agg #[.int .i64 (s : Int), .float .f64 (W v)]] w fun e w' => e = .returned (.tuple #[]) ∧ (∃ d', CS B cb room left (m + 1) sf vf d' w') ∧ Keeps (fun k => B ≤ k) w w' := by
  have hC1 : CS B cb room (left + 1) m sf vf d (w.alloc (.cells #[.int .i64 (s : Int), .float .f64 (W v)] 28)) := hC.move (by simp) (fun k hk => Below.heap_alloc _ _ _ hk)
  have k0 := hC1.row.cell (i := 0) (by omega)
  have k1 := hC1.row.cell (i := 1) (by omega)
  have k2 := hC1.row.cell (i := 2) (by omega)
  have k9 := hC1.row.cell (i := 9) (by omega)
  have f1 := hC1.row.frozen 1
  simp only [cvF] at k0 k1 k2 k9
  have q54 : ∀ (w : World) (a : Option Addr) (n c n' c' : Nat), (binOp .eql 54 (.slice a n c) (.slice none n' c')).run Yba.prog w = .ok (.bool a.isNone) w := fun w a n c n' c' => Lib.run_eql_slice_nil w _ _ a n c n' c' Yba.underlying54
  have hd16 : Int.tdiv (room : Int) 16 = ((room / 16 : Nat) : Int) := by rw [Int.tdiv_eq_ediv_of_nonneg (by omega)]; simp
  have hle : ¬ ((room / 16 : Nat) : Int) < (d.xs.length : Int) := by omega
  have hl1 : ((left + 1 : Nat) : Int) - 1 = (left : Int) := by omega
  have HC : Hid (_) := hC
  have HC1 : Hid (_) := hC1
  clear hC hC1
  go_enter Yba.func12, Yba.ntmps12
  go_wp2_with fail
  go_quiet (fail)
  rename_i K1 hK1
  refine hK1 _ _ ?_
  clear hK1
  go_wp2_with fail
  rename_i K3 hK3 K2 hK2
  have hC2 := CS.left (left := left) (HC1.out.keep ((Keeps.refl _ _).drewN nq))
  have hi := World.rowIs.setOther ((row_two w 28 (.int .i64 (s : Int)) (.float .f64 (W v))).of_block (w' := (w.alloc (.cells #[.int .i64 (s : Int), .float .f64 (W v)] 28)).drewN nq) rfl) (a := ⟨cb, 1, none⟩) (by have := HC.out.row.lt; show w.heap.size ≠ cb; omega) (.int .i64 (left : Int))
  have hK02 : Keeps (fun k => B ≤ k) w (((w.alloc (.cells #[.int .i64 (s : Int), .float .f64 (W v)] 28)).drewN nq).setCell ⟨cb, 1, none⟩ (.int .i64 (left : Int))) := (((Keeps.refl _ w).alloc _).drewN nq).setCell (fun _ => HC.out.hcb) _
  have hi0 := hi.cell (i := 0) (by omega)
  have hi1 := hi.cell (i := 1) (by omega)
  simp only [if_true, Nat.one_ne_zero, if_false] at hi0 hi1
  have hsz2 : w.heap.size < (((w.alloc (.cells #[.int .i64 (s : Int), .float .f64 (W v)] 28)).drewN nq).setCell ⟨cb, 1, none⟩ (.int .i64 (left : Int))).heap.size := by simp
  clear k0 k1 k2 k9 f1 HC1 hi
  generalize (((w.alloc (.cells #[.int .i64 (s : Int), .float .f64 (W v)] 28)).drewN nq).setCell ⟨cb, 1, none⟩ (.int .i64 (left : Int))) = w2 at *
  obtain ⟨hfit, hub⟩ := md_bd hC2.md hl hroom hs7
  have hN := next_of d.xs d.us d.sw s v room m sf vf hC2.rep hC2.md hl hroom hsf hvf hs hs7 hv9
  have hrl := hN.rep.len
  obtain ⟨seg, hseg, hSw, hsl⟩ := hN.sw
  have nS := apart_cb hC2.oS hC2.row (by decide)
  have nV := apart_cb hC2.oV hC2.row (by decide)
  have nW := apart_cb hC2.oW hC2.row (by decide)
  refine c6 B cb w.heap.size s v room left d.sz d.vz d.xs.length d.cS d.cV d.nS d.cdS d.nV d.cdV d.sw.length d.cW d.aS d.aV d.aW _ _ _ (added d.xs d.us d.sw s v).xs (added d.xs d.us d.sw s v).us (added d.xs d.us d.sw s v).sw _ w2 rfl rfl rfl rfl hC2.row hi0 hi1 (by rintro (h | h | h); exact nS h; exact nV h; exact nW h) ?_ ?_
  · intro wx hk
    have hCx := hC2.keep hk
    refine (stair_any B d.sz d.vz d.xs.length d.cS d.cV s v room d.nS d.cdS d.nV d.cdV d.cW d.aS d.aV d.aW d.yS d.yV d.xs d.us d.sw wx hCx.hB hCx.oX hCx.oU hCx.oS hCx.oV hCx.oW hCx.rep.pos (by omega) (fun x hx => by have := hCx.rep.le x hx; omega) hub (by omega) (by omega) hs (by omega) (by have := hCx.tk.lim; omega) hCx.rep.sort hCx.rep.zero hfit hCx.d1 hCx.d2 hCx.d3 hCx.d4 hN.p).mono ?_
    rintro e w' ⟨gs, gv, gw, cs, cv, cw, he, h1, h2, h3, h4, h5, h6, h7, h8⟩
    exact ⟨gs, gv, gw, cs, cv, cw, he, ⟨h1, h2, h3, h4, h5, h6, h7⟩, h8⟩
  intro f2 w3 gs gv gw cs cv cw hsz hds hold hr3 hS3 hk3
  refine hK2 _ _ ?_
  clear hK2
  go_wp2_with fail
  rename_i K4 hK4
  have ht0 : f2.tmps[0]?.getD undef = .pointer (some ⟨cb, 0, none⟩) := hold 0 (by omega)
  refine c7 cb room left d.sz d.vz d.xs.length d.xs.length d.cS d.cV _ _ _ _ _ _ _ _ _ _ f2 w3 hsz hds ht0 hr3 ?_
  intro f3 w4 hsz4 hds4 hold4 hr4 hk4
  refine hK4 _ _ ?_
  clear hK4
  go_wp2_with fail
  rename_i K5 hK5
  have ht0' : f3.tmps[0]?.getD undef = .pointer (some ⟨cb, 0, none⟩) := (hold4 0 (by omega)).trans ht0
  have nF := apart_cb hC2.oF hC2.row (by decide)
  have nFv := apart hC2.oV hC2.oF (by decide) d.gf rfl
  have hF3 := own_keep hC2.oF hk3 (by rintro (h | h | h | h); exact nF (by rw [h]); exact hC2.d6 h; exact nFv h; exact hC2.d7 h)
  have hF4 := own_keep hF3 hk4 (fun h => nF (by rw [h]))
  have hB3 := hk3.size
  have hB4 := hk4.size
  refine c8 B cb room left gw _ cw d.gf (m + 1) d.cF _ _ _ _ _ _ d.fr f3 w4 hsz4 hds4 ht0' hr4 hF4 (by have := hC2.hB; omega) (by omega) ?_
  intro f5 w5 gg cap hsz5 hds5 hold5 hr5 hF5 hgg hk5
  refine hK5 _ _ ?_
  clear hK5
  go_wp2_with fail
  have lsz := (slice_lt hC2.oX d.sz rfl).2
  have lvz := (slice_lt hC2.oU d.vz rfl).2
  have lgf := (slice_lt hC2.oF d.gf rfl).2
  have lgs := (slice_lt hS3.os gs rfl).2
  have lgw := (slice_lt hS3.ow gw rfl).2
  have lgv := (slice_lt hS3.ov gv rfl).2
  have ngs : gs ≠ cb := fun e => apart_cb hS3.os hr3 (by decide) (by rw [e])
  have ngv : gv ≠ cb := fun e => apart_cb hS3.ov hr3 (by decide) (by rw [e])
  have ngw : gw ≠ cb := fun e => apart_cb hS3.ow hr3 (by decide) (by rw [e])
  have nsz : d.sz ≠ cb := fun e => apart_cb hC2.oX hC2.row (by decide) (by rw [e])
  have nvz : d.vz ≠ cb := fun e => apart_cb hC2.oU hC2.row (by decide) (by rw [e])
  have e1 : gs ≠ d.sz := by
    rcases hS3.ps with h | h
    · exact fun e => hC2.d1 (by rw [h, e])
    · omega
  have e2 : gw ≠ d.sz := by
    rcases hS3.pw with h | h
    · exact fun e => hC2.d2 (by rw [h, e])
    · omega
  have e3 : gv ≠ d.vz := by
    rcases hS3.pv with h | h
    · exact fun e => hC2.d4 (by rw [h, e])
    · omega
  have e4 : gs ≠ d.gf := by
    rcases hS3.ps with h | h
    · exact fun e => hC2.d6 (by rw [h, e])
    · omega
  have e5 : gw ≠ d.gf := by
    rcases hS3.pw with h | h
    · exact fun e => hC2.d7 (by rw [h, e])
    · omega
  have e6 : gv ≠ d.gf := fun e => apart hS3.ov hF3 (by decide) d.gf rfl (by rw [e])
  have e7 : d.vz ≠ d.gf := fun e => apart hC2.oU hC2.oF (by decide) d.gf rfl (by rw [e])
  have xV := apart hC2.oV hC2.oX (by decide) d.sz rfl
  have uS := apart hC2.oS hC2.oU (by decide) d.vz rfl
  have uW := apart hC2.oW hC2.oU (by decide) d.vz rfl
  have hX3 := own_keep hC2.oX hk3 (by rintro (h | h | h | h); exact nsz h; exact hC2.d1 h; exact xV h; exact hC2.d2 h)
  have hU3 := own_keep hC2.oU hk3 (by rintro (h | h | h | h); exact nvz h; exact uS h; exact hC2.d4 h; exact uW h)
  have g1 : gg ≠ gs := by rcases hgg with h | h; exact fun e => e4 (by rw [← e, h]); omega
  have g2 : gg ≠ d.sz := by rcases hgg with h | h; exact fun e => hC2.d5 (by rw [← e, h]); omega
  have g3 : gg ≠ gw := by rcases hgg with h | h; exact fun e => e5 (by rw [← e, h]); omega
  have mv : ∀ {e n g c : Nat} {ys : List Value}, w3.ownsRow B e 1 (.slice (some ⟨g, 0, none⟩) n c) n ys → g ≠ cb → g ≠ d.gf → w5.ownsRow B e 1 (.slice (some ⟨g, 0, none⟩) n c) n ys := fun h n1 n2 => own_keep (own_keep h hk4 n1) hk5 (by rintro (h | h); exact n1 h; exact n2 h)
  have hov := hS3.ov
  rw [hrl] at hov hr5
  have hfin : CS B cb room left (m + 1) sf vf ⟨gs, gv, cs, cv, d.xs.length, d.cS, d.xs.length, d.cV, cw, gg, cap, some ⟨d.sz, 0, none⟩, some ⟨d.vz, 0, none⟩, some ⟨gw, 0, none⟩, ints d.xs, flts d.us, (added d.xs d.us d.sw s v).xs, (added d.xs d.us d.sw s v).us, (added d.xs d.us d.sw s v).sw, d.fr ++ [(added d.xs d.us d.sw s v).sw.length]⟩ w5 := by
    refine ⟨hr5, mv hS3.os ngs e4, mv hov ngv e6, mv hX3 nsz (Ne.symm hC2.d5), mv hU3 nvz e7, mv hS3.ow ngw e5, hF5, hN.rep, hN.md, ?_, ?_, ?_, ?_, ?_, g1, ?_, ?_, hC2.hcb, ?_⟩
    · show Tk (added d.xs d.us d.sw s v).sw (d.fr ++ [(added d.xs d.us d.sw s v).sw.length]) room (m + 1) sf vf
      rw [hseg]
      exact hC2.tk.snoc hSw hsl
    · show some _ ≠ some _; simp; try exact Ne.symm e1
    · show some _ ≠ some _; simp; try exact Ne.symm hS3.ne
    · intro g hg; show some _ ≠ some _; simp at hg ⊢; rw [← hg]; exact e2
    · show some _ ≠ some _; simp; try exact Ne.symm e3
    · show some _ ≠ some _; simp; try exact Ne.symm g2
    · show some _ ≠ some _; simp; try exact Ne.symm g3
    · have := hk5.size; have := hC2.hB; show B ≤ w5.heap.size; omega
  have hkeep : Keeps (fun k => B ≤ k) w w5 := by
    refine ((hK02.trans (hk3.mono (E := fun k => B ≤ k) ?_) (fun _ _ h => h)).trans (hk4.mono (E := fun k => B ≤ k) ?_) (fun _ _ h => h)).trans (hk5.mono (E := fun k => B ≤ k) ?_) (fun _ _ h => h)
    · rintro k _ (h | h | h | h)
      · rw [h]; exact hC2.hcb
      · exact (slice_lt hC2.oS k h).1
      · exact (slice_lt hC2.oV k h).1
      · exact (slice_lt hC2.oW k h).1
    · rintro k _ h; rw [h]; exact hC2.hcb
    · rintro k _ (h | h)
      · rw [h]; exact hC2.hcb
      · rw [h]; exact (slice_lt hC2.oF d.gf rfl).1
  refine bodyPost_ret (v := .tuple #[]) (by simp [results, Yba.results12, go_sem]; try rfl) hds5 ⟨rfl, ⟨_, hfin⟩, hkeep⟩
end Go.Proofs.Ybulkbnbu.Kn
