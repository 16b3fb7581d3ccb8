/-
  The curve's 'add' (function 12), once it is a table.
-/
import Derived.Test.YbulkbnbuTab
namespace Go.Proofs.Ybulkbnbu.Kn
set_option linter.unusedSimpArgs false
set_option linter.unusedVariables false
open Go.ChangeShapes Go.WideShapes Go.ChangeAt Go.RowKit
open Go.Proofs.Ybulkbnbu.Fl Go.Proofs.Ybulkbnbu.Pl
attribute [local go_sem] run_store_float

theorem F_bd (sf vf : Nat → Nat) (h : ∀ i, vf i ≤ 9) (m c : Nat) : F sf vf m c ≤ 9 * m := by
  induction m generalizing c with
  | zero => simp [F]
  | succ m ih =>
    rw [F_succ]
    have h1 := ih c
    have h2 := ih (c - sf m)
    have h3 := h m
    split <;> omega
theorem CT.left {B cb room left m : Nat} {sf vf : Nat → Nat} {d : Td} {w : World} (h : CT B cb room (left + 1) m sf vf d w) : (w.setCell ⟨cb, 1, none⟩ (.int .i64 (left : Int))).rowIs cb 59 11 (cvF room left d.x d.y d.s d.v (.slice d.aW d.sw.length d.cW) (.slice (some ⟨d.gf, 0, none⟩) (d.m0 + 1) d.cF) (.slice (some ⟨d.gt, 0, none⟩) (room + 1) (room + 1)) (.slice (some ⟨d.gk, 0, none⟩) (m - d.m0) d.ck)) :=
  (h.row.set 1 _).congr (fun j hj => by rcases eleven hj with rfl | rfl | rfl | rfl | rfl | rfl | rfl | rfl | rfl | rfl | rfl <;> rfl)

set_option maxRecDepth 100000 in
set_option maxHeartbeats 8000000 in
theorem tail12 {R : Ending → World → Prop} (B cb ib room left m s v : Nat) (sf vf : Nat → Nat) (d : Td) (f : Act) (w : World) (hC : CT B cb room (left + 1) m sf vf d w) (hi : w.rowIs ib 28 2 (fun j => if j = 0 then .int .i64 (s : Int) else .float .f64 (W v))) (hroom : room ≤ 47) (hleft : left < 1000) (hm : m < 100) (hsf : sf m = s) (hvf : vf m = v) (hs : 1 ≤ s) (hs7 : s ≤ 7) (hv9 : ∀ i, vf i ≤ 9)
    (hsz : f.tmps.size = 191) (hds : f.defers = []) (e0 : f.tmps[0]?.getD undef = .pointer (some ⟨cb, 0, none⟩)) (e3 : f.tmps[3]?.getD undef = .pointer (some ⟨ib, 0, none⟩))
    (hR : ∀ w' d', CT B cb room left (m + 1) sf vf d' w' → Keeps (fun k => B ≤ k) w w' → R (.returned (.tuple #[])) w') :
    Code.wp Yba.prog ((Yba.f12.body.bind (from_ 4)).getD .skip) (bodyPost Yba.prog Yba.f12 R) f w := by
  conv => arg 2; whnf
  obtain ⟨g, hg⟩ : ∃ g : Nat → Value, ∀ t, f.tmps[t]?.getD undef = g t := ⟨_, fun _ => rfl⟩
  rw [hg] at e0 e3
  rw [lit191 f g hg hsz hds, e0, e3]
  clear hg hsz hds e0 e3

  have k1 := hC.row.cell (i := 1) (by omega)
  have k9 := hC.row.cell (i := 9) (by omega)
  have k10 := hC.row.cell (i := 10) (by omega)
  have f1 := hC.row.frozen 1
  simp only [cvF] at k1 k9 k10
  have q54 : ∀ (w : World) (a : Option Addr) (n c n' c' : Nat), (binOp .eql 54 (.slice a n c) (.slice none n' c')).run Yba.prog w = .ok (.bool a.isNone) w := fun w a n c n' c' => Lib.run_eql_slice_nil w _ _ a n c n' c' Yba.underlying54
  have hl1 : ((left + 1 : Nat) : Int) - 1 = (left : Int) := by omega
  have hr2 := hC.left
  obtain ⟨tc, htc⟩ := row_tag hC.row
  obtain ⟨t1, ht1⟩ := row_tag hC.tb
  obtain ⟨t2, ht2⟩ := row_tag hC.tn
  obtain ⟨t3, ht3⟩ := row_tag hi
  have n1 : d.gt ≠ cb := (tag_ne htc ht1 (by decide)).symm
  have n2 : d.gk ≠ cb := (tag_ne htc ht2 (by decide)).symm
  have n3 : ib ≠ cb := (tag_ne htc ht3 (by decide)).symm
  have n4 : ib ≠ d.gt := tag_ne ht3 ht1 (by decide)
  have n5 : ib ≠ d.gk := tag_ne ht3 ht2 (by decide)
  have n6 : d.gt ≠ d.gk := tag_ne ht1 ht2 (by decide)
  have htb2 := World.rowIs.setOther hC.tb (a := ⟨cb, 1, none⟩) n1 (.int .i64 (left : Int))
  have htn2 := World.rowIs.setOther hC.tn (a := ⟨cb, 1, none⟩) n2 (.int .i64 (left : Int))
  have hi2 := World.rowIs.setOther hi (a := ⟨cb, 1, none⟩) n3 (.int .i64 (left : Int))
  have hk2 : Keeps (fun k => B ≤ k) w (w.setCell ⟨cb, 1, none⟩ (.int .i64 (left : Int))) := (Keeps.refl _ w).setCell (fun _ => hC.hcb) _
  have hoW2 := own_cb (j := 1) (u := .int .i64 (left : Int)) hC.oW hC.row (by decide)
  have hoF2 := own_cb (j := 1) (u := .int .i64 (left : Int)) hC.oF hC.row (by decide)
  have H : Hid (_) := And.intro hC (And.intro hr2 (And.intro htb2 (And.intro htn2 (And.intro hi2 (And.intro hk2 (And.intro hoW2 hoF2))))))
  have HR : Hid (_) := hR
  clear hC hi hr2 htc ht1 ht2 ht3 htb2 htn2 hi2 hk2 hR hoW2 hoF2
  go_wp2_with fail
  rename_i K1 hK1
  obtain ⟨hC, hr2, htb2, htn2, hi2, hk2, hoW2, hoF2⟩ := H.out
  clear H k1 k9 k10 f1
  generalize w.setCell ⟨cb, 1, none⟩ (.int .i64 (left : Int)) = w2 at *
  have hle := hC.le
  have hck := hC.ck
  refine c10 cb room left d.gk (m - d.m0) d.ck _ _ _ _ _ _ _ d.tw _ w2 rfl rfl rfl hr2 htn2 (by omega) (hC.zero _ (Nat.le_refl _)) (by omega) ?_
  intro f2 w3 hsz hds hold hr3 htn3 hk3
  have e0 : f2.tmps[0]?.getD undef = .pointer (some ⟨cb, 0, none⟩) := hold 0 (by omega)
  have e3 : f2.tmps[3]?.getD undef = .pointer (some ⟨ib, 0, none⟩) := hold 3 (by omega)
  have e4 : f2.tmps[4]?.getD undef = .int .i64 ((m - d.m0 : Nat) : Int) := hold 4 (by omega)
  refine hK1 _ _ ?_
  clear hK1 hold
  obtain ⟨g2, hg2⟩ : ∃ g2 : Nat → Value, ∀ t, f2.tmps[t]?.getD undef = g2 t := ⟨_, fun _ => rfl⟩
  rw [hg2] at e0 e3 e4
  rw [lit191 f2 g2 hg2 hsz hds, e0, e3, e4]
  clear hg2 hsz hds e0 e3 e4

  have k0 := hr3.cell (i := 0) (by omega)
  have k9 := hr3.cell (i := 9) (by omega)
  have k10 := hr3.cell (i := 10) (by omega)
  simp only [cvF] at k0 k9 k10
  have H : Hid (_) := And.intro hC (And.intro hr3 (And.intro htb2 (And.intro htn3 (And.intro hi2 (And.intro hk2 (And.intro hk3 (And.intro hoW2 hoF2)))))))
  clear hC hr2 hr3 htb2 htn2 htn3 hi2 hk2 hk3 hoW2 hoF2
  have hn : m - d.m0 < d.ck := by omega
  generalize hnn : m - d.m0 = n at *
  have h1 : (n : Int) ≤ ((n + 1 : Nat) : Int) := by omega
  have h2 : (0 : Int) ≤ (n : Int) := by omega
  have h3 : n ≠ d.ck := by omega
  go_wp2_with fail
  go_quiet (fail)
  rename_i K2 hK2
  refine hK2 _ _ ?_
  clear hK2
  go_wp2_with fail
  obtain ⟨hC, hr3, htb2, htn3, hi2, hk2, hk3, hoW2, hoF2⟩ := H.out
  clear H k0 k9 k10
  have htb3 := htb2.of_block (hk3.block d.gt htb2.lt (by rintro (h | h); exact n1 h; exact n6 h))
  have hi3 := hi2.of_block (hk3.block ib hi2.lt (by rintro (h | h); exact n3 h; exact n5 h))
  have c0 := (World.rowIs.of_block hi3 (w' := w3.drewN nq) rfl).cell (i := 0) (by omega)
  have c1 := (World.rowIs.of_block hi3 (w' := w3.drewN nq) rfl).cell (i := 1) (by omega)
  simp only [if_true, Nat.one_ne_zero, if_false] at c0 c1
  have hz : d.tw n = 0 := hC.zero n (by omega)
  refine tab_loop ib d.gt room d.gk n d.ck s v m sf vf d.tw _ (w3.drewN nq) hsf hvf hs (by omega) (by have := hv9 m; omega) hroom hn (fun c => by have := F_bd sf vf hv9 m c; omega) ⟨n4, n5, n6⟩ ⟨rfl, rfl, rfl, rfl, ?_, ?_⟩ ⟨(World.rowIs.of_block htb3 (w' := w3.drewN nq) rfl).congr (fun i hi => ?_), World.rowIs.of_block htn3 (w' := w3.drewN nq) rfl, c0, c1, fun i hi => ?_, hC.lim n, Keeps.refl _ _⟩ ?_
  · show Value.slice _ _ _ = Value.slice _ _ _
    congr 1; omega
  · show Value.int _ _ = Value.int _ _
    congr 1; omega
  · unfold tbF; rw [if_neg (by omega)]
  · rw [hz]; simp; intro h; omega
  intro f3 w4 tw hsz4 hds4 htb4 htn4 hbit hlim hoth hk4
  have nW := apart_cb hC.oW hC.row (by decide)
  have nF := apart_cb hC.oF hC.row (by decide)
  have hk24 : Keeps (fun j => j = cb ∨ j = d.gk ∨ j = d.gt) w2 w4 := ((hk3.mono (E := fun j => j = cb ∨ j = d.gk ∨ j = d.gt) (fun k _ h => h.elim Or.inl (fun h => Or.inr (Or.inl h)))).drewN nq).trans hk4 (fun k _ h => h.elim (fun h => Or.inr (Or.inr h)) (fun h => Or.inr (Or.inl h)))
  obtain ⟨tk2, htk2⟩ := row_tag htb2
  have far : ∀ {n : Nat} {v : Value} {ys : List Value}, w2.ownsRow B 3 1 v n ys → w2.rowIs d.gt 26 (room + 1) (fun c => .float .f64 (W (F sf vf m c))) → (∀ g, v.ownBlock = some g → g ≠ cb ∧ g ≠ d.gk) → w4.ownsRow B 3 1 v n ys := fun h hg hn => ownsRow_of_block h (fun g hg' => hk24.block g (ownsRow_lt h g hg') (by
    rintro (e | e | e)
    · exact (hn g hg').1 e
    · exact (hn g hg').2 e
    · exact tag_ne (ownsRow_tag h g hg').2.choose_spec htk2 (by decide) e))
  obtain ⟨tk3, htk3⟩ := row_tag hC.tn
  have apk : ∀ {n : Nat} {v : Value} {ys : List Value}, w.ownsRow B 3 1 v n ys → ∀ g, v.ownBlock = some g → g ≠ d.gk := fun h g hg => tag_ne (ownsRow_tag h g hg).2.choose_spec htk3 (by decide)
  obtain ⟨tk4, htk4⟩ := row_tag hC.row
  have apc : ∀ {n : Nat} {v : Value} {ys : List Value}, w.ownsRow B 3 1 v n ys → ∀ g, v.ownBlock = some g → g ≠ cb := fun h g hg => tag_ne (ownsRow_tag h g hg).2.choose_spec htk4 (by decide)
  have hfin : CT B cb room left (m + 1) sf vf { d with tw := tw } w4 := by
    refine ⟨?_, far hoW2 htb2 (fun g hg => ⟨apc hC.oW g hg, apk hC.oW g hg⟩), far hoF2 htb2 (fun g hg => ⟨apc hC.oF g hg, apk hC.oF g hg⟩), htb4, htn4, hC.tk, fun j hj c hc => ?_, fun j hj => ?_, fun j => ?_, ?_, ?_, hC.hcb, hC.hgt, hC.hgk, ?_⟩
    · have e : m + 1 - d.m0 = n + 1 := by omega
      show w4.rowIs cb 59 11 (cvF room left d.x d.y d.s d.v (.slice d.aW d.sw.length d.cW) (.slice (some ⟨d.gf, 0, none⟩) (d.m0 + 1) d.cF) (.slice (some ⟨d.gt, 0, none⟩) (room + 1) (room + 1)) (.slice (some ⟨d.gk, 0, none⟩) (m + 1 - d.m0) d.ck))
      rw [e]
      exact (World.rowIs.of_block hr3 (w' := w3.drewN nq) rfl).of_block (hk4.block cb hr3.lt (by rintro (h | h); exact n1 h.symm; exact n2 h.symm))
    · show (tw j).testBit c = T sf vf (d.m0 + j) c
      have hj' : j < m + 1 - d.m0 := hj
      by_cases e : j = n
      · rw [e, show d.m0 + n = m by omega]; exact hbit c hc
      · rw [hoth j e]; exact hC.bits j (by omega) c hc
    · show tw j = 0
      have hj' : m + 1 - d.m0 ≤ j := hj
      rw [hoth j (by omega)]; exact hC.zero j (by omega)
    · show tw j < 2 ^ 64
      by_cases e : j = n
      · subst e; exact hlim
      · rw [hoth j e]; exact hC.lim j
    · show d.ck = left + (m + 1 - d.m0); omega
    · show d.m0 ≤ m + 1; omega
    · have := hk24.size; have := hk2.size; have := hC.hB; show B ≤ w4.heap.size; omega
  have hkeep : Keeps (fun k => B ≤ k) w w4 := hk2.trans hk24 (by
    rintro k _ (h | h | h)
    · rw [h]; exact hC.hcb
    · rw [h]; exact hC.hgk
    · rw [h]; exact hC.hgt)
  exact bodyPost_end (v := .tuple #[]) (by simp [results, Yba.results12, go_sem]; try rfl) hds4 (HR.out w4 _ hfin hkeep)

set_option maxRecDepth 100000 in
set_option maxHeartbeats 8000000 in
theorem add_table (B cb room left m s v : Nat) (sf vf : Nat → Nat) (d : Td) (w : World) (hC : CT B cb room (left + 1) m sf vf d w) (hroom : room ≤ 47) (hleft : left < 1000) (hm : m < 100) (hsf : sf m = s) (hvf : vf m = v) (hs : 1 ≤ s) (hs7 : s ≤ 7) (hv9 : ∀ i, vf i ≤ 9) :
    Calls Yba.prog 12 #[.pointer (some ⟨cb, 0, none⟩), .agg #[.int .i64 (s : Int), .float .f64 (W v)]] w fun e w' => e = .returned (.tuple #[]) ∧ (∃ d', CT B cb room left (m + 1) sf vf d' w') ∧ Keeps (fun k => B ≤ k) w w' := by
  have hC1 : CT B cb room (left + 1) m sf vf d (w.alloc (.cells #[.int .i64 (s : Int), .float .f64 (W v)] 28)) := hC.move (by simp) (fun k hk => Below.heap_alloc _ _ _ hk)
  have k9 := hC1.row.cell (i := 9) (by omega)
  simp only [cvF] at k9
  have q54 : ∀ (w : World) (a : Option Addr) (n c n' c' : Nat), (binOp .eql 54 (.slice a n c) (.slice none n' c')).run Yba.prog w = .ok (.bool a.isNone) w := fun w a n c n' c' => Lib.run_eql_slice_nil w _ _ a n c n' c' Yba.underlying54
  have HC1 : Hid (_) := hC1
  clear hC hC1
  go_enter Yba.func12, Yba.ntmps12
  go_wp2_with fail
  rename_i K0 hK0 K1 hK1
  go_quiet (fail)
  refine hK1 _ _ ?_
  have HK0 : Hid (_) := hK0
  clear hK1 hK0
  go_wp2_with fail
  refine HK0.out _ _ ?_
  refine tail12 B cb w.heap.size room left m s v sf vf d _ _ (HC1.out.keep ((Keeps.refl _ _).drewN nq)) ((row_two w 28 (.int .i64 (s : Int)) (.float .f64 (W v))).of_block (w' := (w.alloc (.cells #[.int .i64 (s : Int), .float .f64 (W v)] 28)).drewN nq) rfl) hroom hleft hm hsf hvf hs hs7 hv9 rfl rfl rfl rfl ?_
  intro w' d' h1 h2
  exact ⟨rfl, ⟨d', h1⟩, (((Keeps.refl _ w).alloc _).drewN nq).trans h2 (fun _ _ h => h)⟩

set_option maxRecDepth 100000 in
set_option maxHeartbeats 8000000 in
theorem add_first (B cb room left m s v : Nat) (sf vf : Nat → Nat) (d : Sd) (w : World) (hC : CS B cb room (left + 1) m sf vf d w) (hl : room / 16 < d.xs.length) (hroom : room ≤ 47) (hleft : left < 500) (hm : m < 100) (hsf : sf m = s) (hvf : vf m = v) (hs : 1 ≤ s) (hs7 : s ≤ 7) (hv9 : ∀ i, vf i ≤ 9) :
    Calls Yba.prog 12 #[.pointer (some ⟨cb, 0, none⟩), .agg #[.int .i64 (s : Int), .float .f64 (W v)]] w fun e w' => e = .returned (.tuple #[]) ∧ (∃ d', CT B cb room left (m + 1) sf vf d' w') ∧ Keeps (fun k => B ≤ k) w w' := by
  have hC1 : CS B cb room (left + 1) m sf vf d (w.alloc (.cells #[.int .i64 (s : Int), .float .f64 (W v)] 28)) := hC.move (by simp) (fun k hk => Below.heap_alloc _ _ _ hk)
  have k0 := hC1.row.cell (i := 0) (by omega)
  have k2 := hC1.row.cell (i := 2) (by omega)
  have k9 := hC1.row.cell (i := 9) (by omega)
  simp only [cvF] at k0 k2 k9
  have q54 : ∀ (w : World) (a : Option Addr) (n c n' c' : Nat), (binOp .eql 54 (.slice a n c) (.slice none n' c')).run Yba.prog w = .ok (.bool a.isNone) w := fun w a n c n' c' => Lib.run_eql_slice_nil w _ _ a n c n' c' Yba.underlying54
  have hd16 : Int.tdiv (room : Int) 16 = ((room / 16 : Nat) : Int) := by rw [Int.tdiv_eq_ediv_of_nonneg (by omega)]; simp
  have hle : ((room / 16 : Nat) : Int) < (d.xs.length : Int) := by omega
  have HC1 : Hid (_) := hC1
  clear hC hC1
  go_enter Yba.func12, Yba.ntmps12
  go_wp2_with fail
  rename_i K0 hK0 K1 hK1
  go_quiet (fail)
  refine hK1 _ _ ?_
  have HK0 : Hid (_) := hK0
  clear hK1 hK0
  go_wp2_with fail
  rename_i K2 hK2
  have hC2 := HC1.out.keep ((Keeps.refl _ _).drewN nq)
  have hi := (row_two w 28 (.int .i64 (s : Int)) (.float .f64 (W v))).of_block (w' := (w.alloc (.cells #[.int .i64 (s : Int), .float .f64 (W v)] 28)).drewN nq) rfl
  have hK02 : Keeps (fun k => B ≤ k) w ((w.alloc (.cells #[.int .i64 (s : Int), .float .f64 (W v)] 28)).drewN nq) := ((Keeps.refl _ w).alloc _).drewN nq
  clear k0 k2 k9 HC1
  generalize ((w.alloc (.cells #[.int .i64 (s : Int), .float .f64 (W v)] 28)).drewN nq) = w2 at *
  have hL : d.xs.length ≤ 100 := by
    rcases hC2.md with ⟨h, _⟩ | ⟨a, u, h, _⟩ | ⟨_, h, _⟩
    · rw [h]; simp
    · rw [h]; simp
    · omega
  refine c2 B cb d.sz d.vz d.xs.length d.cS d.cV room (left + 1) _ _ _ _ _ d.xs d.us (F sf vf m) _ w2 rfl rfl rfl hC2.row hC2.oX hC2.oU hC2.rep (by omega) hL ?_
  intro f3 w3 gt hsz3 hds3 hold3 hr3 hgt3 hg3 hk3
  refine hK2 _ _ ?_
  clear hK2
  have ht0 : f3.tmps[0]?.getD undef = .pointer (some ⟨cb, 0, none⟩) := hold3 0 (by omega)
  have ht3 : f3.tmps[3]?.getD undef = .pointer (some ⟨w.heap.size, 0, none⟩) := hold3 3 (by omega)
  refine c3 cb room (left + 1) _ _ _ _ _ _ _ f3 w3 hsz3 hds3 ht0 hr3 (by omega) (by omega) ?_
  intro f4 w4 gk hsz4 hds4 hold4 hr4 hgk4 hg4 hk4
  refine HK0.out _ _ ?_
  have lgt := hgt3.lt
  have hs3 := hk3.size
  have hs4 := hk4.size
  have hB := hC2.hB
  obtain ⟨tc, htc⟩ := row_tag hr3
  obtain ⟨t1, ht1⟩ := row_tag hgt3
  obtain ⟨tc0, htc0⟩ := row_tag hC2.row
  obtain ⟨ti, hti⟩ := row_tag hi
  have n1 : gt ≠ cb := (tag_ne htc ht1 (by decide)).symm
  have n2 : w.heap.size ≠ cb := (tag_ne htc0 hti (by decide)).symm
  have hk24 : Keeps (fun k => k = cb) w2 w4 := hk3.trans hk4 (fun _ _ h => h)
  have far : ∀ {n : Nat} {v : Value} {ys : List Value}, w2.ownsRow B 3 1 v n ys → w4.ownsRow B 3 1 v n ys := fun h => ownsRow_of_block h (fun g hg' => hk24.block g (ownsRow_lt h g hg') (fun e => tag_ne (ownsRow_tag h g hg').2.choose_spec htc0 (by decide) e))
  have hCT : CT B cb room (left + 1) m sf vf ⟨gt, gk, left + 1, m, d.cW, d.gf, d.cF, d.aW, d.sw, d.fr, fun _ => 0, .slice (some ⟨d.sz, 0, none⟩) d.xs.length d.cS, .slice (some ⟨d.vz, 0, none⟩) d.xs.length d.cV, .slice d.aS d.nS d.cdS, .slice d.aV d.nV d.cdV⟩ w4 := by
    refine ⟨?_, far hC2.oW, far hC2.oF, hgt3.of_block (hk4.block gt lgt n1), hgk4, hC2.tk, fun j hj => ?_, fun _ _ => rfl, fun _ => by show 0 < 2 ^ 64; omega, ?_, Nat.le_refl _, hC2.hcb, ?_, ?_, ?_⟩
    · show w4.rowIs cb 59 11 (cvF room (left + 1) _ _ _ _ _ _ _ (.slice (some ⟨gk, 0, none⟩) (m - m) (left + 1)))
      rw [Nat.sub_self]; exact hr4
    · exact absurd (show j < m - m from hj) (by omega)
    · show left + 1 = left + 1 + (m - m); omega
    · show B ≤ gt; omega
    · show B ≤ gk; omega
    · show B ≤ w4.heap.size; omega
  refine tail12 B cb w.heap.size room left m s v sf vf _ _ _ hCT (hi.of_block (hk24.block _ hi.lt n2)) hroom (by omega) hm hsf hvf hs hs7 hv9 hsz4 hds4 ((hold4 0 (by omega)).trans ht0) ((hold4 3 (by omega)).trans ht3) ?_
  intro w' d' h1 h2
  refine ⟨rfl, ⟨d', h1⟩, (hK02.trans (hk24.mono (E := fun k => B ≤ k) ?_) (fun _ _ h => h)).trans h2 (fun _ _ h => h)⟩
  rintro k _ h; rw [h]; exact hC2.hcb
end Go.Proofs.Ybulkbnbu.Kn
