/-
  contenders (function 9).
-/
import Derived.Test.YbulkbnbuSrt
import Derived.Test.YbulkbnbuStair
namespace Go.Proofs.Ybulkbnbu.Kn
set_option linter.unusedSimpArgs false
set_option linter.unusedVariables false
open Go.ChangeShapes Go.WideShapes Go.ChangeAt Go.RowKit
open Go.Proofs.Ybulkbnbu.Fl Go.Proofs.Ybulkbnbu.Pl Go.Sort
attribute [local go_sem] run_store_float

theorem made_i (w : World) (n : Nat) (hn : n ≤ 1000) : (Instr.makeSlice 29 (.int .i64 (n : Int)) (.int .i64 (n : Int))).run Yba.prog w = .ok (.slice (some ⟨w.heap.size, 0, none⟩) n n) (w.alloc (.cells (madeCells #[.int .i64 0] n) 3)) :=
  run_make_row' (P := Yba.prog) 29 3 (.int .i64 0) 8 Yba.underlying29 info3 rfl .i64 .i64 n (by omega) (by omega) w

/-- The items that came in. -/
def Itm (w : World) (ib n : Nat) (s v : Nat → Nat) : Prop := ∀ i, i < n → w.cell? ⟨ib, i * 2, none⟩ = some (.int .i64 (s i : Int)) ∧ w.cell? ⟨ib, i * 2 + 1, none⟩ = some (.float .f64 (W (v i)))
theorem Itm.keep {w w' : World} {ib n : Nat} {s v : Nat → Nat} {D : Nat → Prop} (h : Itm w ib n s v) (hk : Keeps D w w') (hd : ¬ D ib) : Itm w' ib n s v := fun i hi => ⟨hk.cell (h i hi).1 hd, hk.cell (h i hi).2 hd⟩
/-- The list that 'contenders' hands back. -/
def Lst (w : World) (H : Nat) (p : Option Addr) (K : List Nat) : Prop := K ≠ [] → ∃ g, p = some ⟨g, 0, none⟩ ∧ H ≤ g ∧ g < w.heap.size ∧ ∀ (j y : Nat), K[j]? = some y → w.cell? ⟨g, j, none⟩ = some (.int .i64 (y : Int))
def Conned (K : List Nat) (w : World) (e : Ending) (w' : World) : Prop := ∃ p c, e = .returned (.slice p K.length c) ∧ Lst w' w.heap.size p K ∧ Keeps (fun _ => False) w w'
def ordF (k j : Nat) : Value := .int .i64 (if j < k then (j : Int) else 0)

set_option maxRecDepth 100000 in
set_option maxHeartbeats 8000000 in
theorem con_any (ib n c cap : Nat) (s v : Nat → Nat) (w : World) (hn : 0 < n) (hn12 : n ≤ 12) (hs : ∀ i, 1 ≤ s i ∧ s i ≤ 7) (hv : ∀ i, v i < 1000) (hcap : cap ≤ 47) (hib : ib < w.heap.size) (hI : Itm w ib n s v) :
    Calls Yba.prog 9 #[.slice (some ⟨ib, 0, none⟩) n c, .int .i64 (cap : Int)] w (Conned (kpt (plc (srt (n := n) s v)) s cap n) w) := by
  have hmk := made_i (w.alloc (.cells #[.slice (some ⟨ib, 0, none⟩) n c] 23)) n (by omega)
  have hrow0 := (World.rowIs_made (w.alloc (.cells #[.slice (some ⟨ib, 0, none⟩) n c] 23)) (.int .i64 0) n 3).congr (g := ordF 0) (fun j _ => by simp [ordF])
  have hk0 : Keeps (fun k => k = w.heap.size + 1) w ((w.alloc (.cells #[.slice (some ⟨ib, 0, none⟩) n c] 23)).alloc (.cells (madeCells #[.int .i64 0] n) 3)) := ((Keeps.refl _ w).alloc _).alloc _
  have hbx0 : ((w.alloc (.cells #[.slice (some ⟨ib, 0, none⟩) n c] 23)).alloc (.cells (madeCells #[.int .i64 0] n) 3)).rowIs w.heap.size 23 1 (fun _ => .slice (some ⟨ib, 0, none⟩) n c) := (World.rowIs_alloc w #[.slice (some ⟨ib, 0, none⟩) n c] 23 _ (fun i hi => by
    have : i = 0 := by simp at hi; omega
    subst this; rfl)).alloc _
  have HI : Hid (_) := hI
  clear hI
  go_enter Yba.func9, Yba.ntmps9
  go_wp2
  clear hmk
  simp only [World.size_alloc] at hrow0
  go_loopw [6, 16] (fun a i wr => ∃ k : Nat, k ≤ n ∧ i = .int .i64 (k : Int) ∧ wr.rowIs (w.heap.size + 1) 3 n (ordF k) ∧ wr.rowIs w.heap.size 23 1 (fun _ => .slice (some ⟨ib, 0, none⟩) n c) ∧ Keeps (fun k => k = w.heap.size + 1) w wr) (fun _ i _ => n - (intOf i).toNat)
  case atStart => exact ⟨0, Nat.zero_le _, rfl, hrow0, hbx0, hk0⟩
  case round =>
    obtain ⟨k, hk, rfl, hrw, hbx, hkp⟩ := hrel
    clear hrow0 hbx0 hk0
    by_cases hlt : k < n
    · have hd := hrw.cell hlt
      have hf := hrw.frozen k
      have R := (hrw.set k (.int .i64 (k : Int))).congr (g := ordF (k + 1)) (fun j _ => by
        unfold ordF
        by_cases e : j = k
        · subst e; rw [if_pos rfl, if_pos (by omega)]
        · rw [if_neg e]
          by_cases e2 : j < k
          · rw [if_pos e2, if_pos (by omega)]
          · rw [if_neg e2, if_neg (by omega)])
      have RB := hbx.setOther (a := ⟨w.heap.size + 1, k, none⟩) (by show w.heap.size ≠ w.heap.size + 1; omega) (.int .i64 (k : Int))
      have RK := hkp.setCell (a := ⟨w.heap.size + 1, k, none⟩) (fun _ => rfl) (.int .i64 (k : Int))
      unfold ordF at hd
      have HR : Hid (_) := And.intro R (And.intro RB RK)
      clear R RB RK hrw hbx hkp
      have h1 : (k : Int) < (n : Int) := by omega
      have h2 : (0 : Int) ≤ (k : Int) := by omega
      go_wp2
      go_roundw
      case rel => exact ⟨k + 1, by omega, by go_num, HR.out.1, HR.out.2.1, HR.out.2.2⟩
      case measure => simp [intOf]; omega
    · obtain rfl : k = n := by omega
      have h1 : ¬ (k : Int) < (k : Int) := by omega
      have hrn := hrw.congr (g := fun j => .int .i64 (j : Int)) (fun j hj => by unfold ordF; rw [if_pos hj])
      have hS := sort24 (w.heap.size + 1) w.heap.size ib k c s v wr hn (by omega) hv hrn (by simpa using hbx.cell (i := 0) (by omega)) (Itm.keep (s := s) (v := v) HI.out hkp (by show ¬ ib = w.heap.size + 1; omega)) (by omega) (by omega)
      have HS : Hid (_) := hS
      have HB : Hid (_) := And.intro hbx hkp
      clear hS hrn hrw hbx hkp
      go_wp2_with (go_at_call 23; refine Calls.mono HS.out ?_; rintro e w2 ⟨rfl, hO, hK2⟩; have HO : Hid (_) := And.intro hO hK2; clear hO hK2)
      have hO1 := HO.out.1
      have hkw := HB.out.2.trans HO.out.2 (fun _ _ h => h)
      have hbx2 := HB.out.1.of_block (HO.out.2.block w.heap.size HB.out.1.lt (by show ¬ w.heap.size = w.heap.size + 1; omega))
      have hplt : ∀ j, j < k → plc (srt (n := k) s v) j < k := fun j hj => by
        have := (srt_perm (n := k) s v).mem_iff.1 (List.mem_map.2 ⟨j, List.mem_range.2 hj, rfl⟩)
        exact List.mem_range.1 this
      have hszw : w.heap.size + 2 ≤ w2.heap.size := by
        have := World.block_lt_of_cell? w2 _ (hO1 0 hn)
        show w.heap.size + 2 ≤ w2.heap.size
        have h3 : w.heap.size + 1 < w2.heap.size := this
        omega
      clear HS HB HO
      generalize plc (srt (n := k) s v) = o at *
      obtain ⟨i0, hi0, hz0, hz1, hz2⟩ := info_parts info3
      go_loopw [7, 8, 9, 10, 29] (fun kv fv _ _ iv wr2 => ∃ q : Nat, q ≤ k ∧ iv = .int .i64 (q : Int) ∧ ∃ len, len = (kl o s cap q).length ∧ wr2.ownsRow w.heap.size 3 1 kv len (ints (kl o s cap q)) ∧ (∀ g, kv.ownBlock = some g → w.heap.size + 2 ≤ g) ∧ (∃ ff : Nat, fv = .int .i64 (ff : Int) ∧ (q = 0 → ff = 0) ∧ (0 < q → ff = fst o s (q - 1))) ∧ (∀ j, j < k → wr2.cell? ⟨w.heap.size + 1, j, none⟩ = some (.int .i64 ((o j : Nat) : Int))) ∧ wr2.rowIs w.heap.size 23 1 (fun _ => .slice (some ⟨ib, 0, none⟩) k c) ∧ Keeps (fun k => k = w.heap.size + 1) w wr2 ∧ w.heap.size + 2 ≤ wr2.heap.size) (fun _ _ _ _ iv _ => k - (intOf iv).toNat)
      case atStart => exact ⟨0, Nat.zero_le _, rfl, 0, rfl, World.ownsRow_nil _ _ _ _, fun g hg => (by cases hg), ⟨0, rfl, fun _ => rfl, fun h => absurd h (by omega)⟩, hO1, hbx2, hkw, hszw⟩
      case round =>
        obtain ⟨q, hq, rfl, len, hlen, how, hob, ⟨ff, rfl, hf0, hf1⟩, hoc, hbxr, hkr, hszr⟩ := hrel
        clear hO1 hbx2 hkw hszw
        by_cases hlt : q < k
        · have hffle : ff ≤ q := by
            by_cases e : q = 0
            · rw [hf0 e]; omega
            · rw [hf1 (by omega)]; have := fst_le o s (q - 1); omega
          have hfs : fst o s q = if s (o q) = s (o ff) then ff else q := by
            cases q with
            | zero => rw [hf0 rfl]; simp [fst]
            | succ q' => rw [hf1 (by omega)]; simp only [Nat.add_sub_cancel, fst]
          have hkept : kept o s cap q = decide (q - fst o s q < cap / s (o q)) := rfl
          have hks := kl_succ o s cap q
          have hbx := hbxr.cell (i := 0) (by omega)
          have c1 := hoc q hlt
          have c2 := hoc ff (by omega)
          have hIr : Itm wr ib k s v := Itm.keep (s := s) (v := v) HI.out hkr (by show ¬ ib = w.heap.size + 1; omega)
          have x1 := (hIr (o q) (hplt q hlt)).1
          have x2 := (hIr (o ff) (hplt ff (by omega))).1
          have l1 := hplt q hlt
          have l2 := hplt ff (by omega)
          obtain ⟨sp1, sp7⟩ := hs (o q)
          have hdiv : Int.tdiv (cap : Int) (s (o q) : Int) = ((cap / s (o q) : Nat) : Int) := by rw [Int.tdiv_eq_ediv_of_nonneg (by omega)]; simp
          have hdb : cap / s (o q) ≤ 47 := Nat.le_trans (Nat.div_le_self _ _) hcap
          have hkl : (kl o s cap q).length ≤ q := by unfold kl; simp; exact Nat.le_trans (List.length_filter_le _ _) (by simp)
          have HV : Hid (_) := And.intro how (And.intro hob (And.intro hoc (And.intro hbxr (And.intro hkr hszr))))
          have HP : Hid (_) := And.intro hplt (And.intro hfs (And.intro hkept (And.intro hks (And.intro hf0 hf1))))
          have HH : Hid (_) := hs
          clear how hob hoc hbxr hkr hplt hfs hkept hks hf0 hf1 hIr hs
          subst hlen
          generalize hx : o q = x at *
          generalize hy : o ff = y at *
          generalize hsx : s x = sx at *
          generalize hsy : s y = sy at *
          have HX : Hid (_) := And.intro hx (And.intro hy (And.intro hsx hsy))
          clear hx hy hsx hsy
          have b1 : (q : Int) < (k : Int) := by omega
          have b2 : (0 : Int) ≤ (q : Int) := by omega
          have b3 : (0 : Int) ≤ (ff : Int) := by omega
          have b4 : (ff : Int) < (k : Int) := by omega
          have b5 : (0 : Int) ≤ (x : Int) := by omega
          have b6 : (x : Int) < (k : Int) := by omega
          have b7 : (0 : Int) ≤ (y : Int) := by omega
          have b8 : (y : Int) < (k : Int) := by omega
          have b9 : ¬ (sx : Int) = 0 := by omega
          by_cases heq : sx = sy
          · subst heq
            by_cases hkp : q - ff < cap / sx
            · have d1 : (q : Int) - (ff : Int) < ((cap / sx : Nat) : Int) := by omega
              generalize cap / sx = dv at *
              go_wp2_with fail
              go_quiet (fail)
              rename_i K1 hK1
              refine hK1 _ _ ?_
              clear hK1
              go_wp2_with (at_builtin; (refine wpList_append_lies _ rfl (.tmp 60) (.tmp 62) 29 rfl w.heap.size 3 i0 _ 1 8 Yba.underlying29 hi0 hz0 hz1 hz2 rfl (by omega) _ _ (ints (kl o s cap q)) rfl (World.ownsRow.alloc (ownsRow_drewN HV.out.1 nq) _) ⟨wr.heap.size, 0, none⟩ 1 1 (ints [x]) rfl rfl (World.news_of_block (cs := #[.int .i64 (x : Int)]) (heap_alloc_new (wr.drewN nq) _)) (ints_one _) (by omega) (by unfold maxLen; omega) (by omega) (by have := HV.out.2.2.2.2.1.size; simp; omega) _ rfl ?_; intro g2 cap2 w5 ho5 hg5 hat5 hlt5; have H5 : Hid (_) := And.intro ho5 (And.intro hg5 (And.intro hat5 hlt5)); clear ho5 hg5 hat5 hlt5))
              go_roundw
              case rel =>
                obtain ⟨hv1, hv2, hv3, hv4, hv5, hv6⟩ := HV.out
                have hfq : fst o s q = ff := by have := HP.out.2.1; simpa using this
                have hkq : kept o s cap q = true := by rw [HP.out.2.2.1, hfq]; exact decide_eq_true (by omega)
                have hks := HP.out.2.2.2.1
                rw [hkq] at hks
                simp only [if_true] at hks
                obtain ⟨ho5, hg5, hat5, hlt5⟩ := H5.out
                have hs5 := hg5.size
                simp at hs5
                have hb5 : ∀ k, k < w.heap.size + 2 → w5.heap[k]? = wr.heap[k]? := fun k hk => (hg5.block k (by simp; omega) (fun e => absurd (hv2 k e.symm) (by omega))).trans (Below.heap_alloc _ _ _ (by show k < wr.heap.size; omega))
                rw [← ints_append, ← hks] at ho5
                refine ⟨q + 1, by omega, by go_num, _, ?_, ho5, fun g hg => ?_, ⟨ff, rfl, fun h => absurd h (by omega), fun _ => by rw [Nat.add_sub_cancel]; exact hfq.symm⟩, fun j hj => ?_, hv4.of_block (hb5 _ (by omega)), ?_, by omega⟩
                · rw [hks]; simp
                · simp [Value.ownBlock] at hg
                  subst hg
                  rcases hat5 with h | h
                  · exact hv2 _ h
                  · rw [h]; simp; omega
                · rw [World.cell?_of_block (hb5 (w.heap.size + 1) (by omega))]; exact hv3 j hj
                · exact Keeps.grown ((hv5.drewN nq).alloc _) hg5 (fun k hk hl => absurd (hv2 k hk) (by omega))
              case measure => simp [intOf]; omega
            · have d1 : ¬ (q : Int) - (ff : Int) < ((cap / sx : Nat) : Int) := by omega
              generalize cap / sx = dv at *
              go_wp2_with fail
              go_quiet (fail)
              rename_i K1 hK1
              refine hK1 _ _ ?_
              clear hK1
              go_wp2_with fail
              go_roundw
              case rel =>
                obtain ⟨hv1, hv2, hv3, hv4, hv5, hv6⟩ := HV.out
                have hfq : fst o s q = ff := by have := HP.out.2.1; simpa using this
                have hkq : kept o s cap q = false := by rw [HP.out.2.2.1, hfq]; exact decide_eq_false (by omega)
                have hks := HP.out.2.2.2.1
                rw [hkq] at hks
                simp only [Bool.false_eq_true, if_false, List.append_nil] at hks
                refine ⟨q + 1, by omega, by go_num, _, by rw [hks], ?_, hv2, ⟨ff, rfl, fun h => absurd h (by omega), fun _ => by rw [Nat.add_sub_cancel]; exact hfq.symm⟩, hv3, World.rowIs.of_block hv4 (w' := wr.drewN nq) rfl, hv5.drewN nq, hv6⟩
                rw [hks]; exact ownsRow_drewN hv1 nq
              case measure => simp [intOf]; omega
          · have hne : ¬ (sx : Int) = (sy : Int) := by omega
            by_cases hkp : q - q < cap / sx
            · have d1 : (q : Int) - (q : Int) < ((cap / sx : Nat) : Int) := by omega
              generalize cap / sx = dv at *
              go_wp2_with fail
              go_quiet (fail)
              rename_i K1 hK1
              refine hK1 _ _ ?_
              clear hK1
              go_wp2_with (at_builtin; (refine wpList_append_lies _ rfl (.tmp 60) (.tmp 62) 29 rfl w.heap.size 3 i0 _ 1 8 Yba.underlying29 hi0 hz0 hz1 hz2 rfl (by omega) _ _ (ints (kl o s cap q)) rfl (World.ownsRow.alloc (ownsRow_drewN HV.out.1 nq) _) ⟨wr.heap.size, 0, none⟩ 1 1 (ints [x]) rfl rfl (World.news_of_block (cs := #[.int .i64 (x : Int)]) (heap_alloc_new (wr.drewN nq) _)) (ints_one _) (by omega) (by unfold maxLen; omega) (by omega) (by have := HV.out.2.2.2.2.1.size; simp; omega) _ rfl ?_; intro g2 cap2 w5 ho5 hg5 hat5 hlt5; have H5 : Hid (_) := And.intro ho5 (And.intro hg5 (And.intro hat5 hlt5)); clear ho5 hg5 hat5 hlt5))
              go_roundw
              case rel =>
                obtain ⟨hv1, hv2, hv3, hv4, hv5, hv6⟩ := HV.out
                have hfq : fst o s q = q := by have := HP.out.2.1; simpa [heq] using this
                have hkq : kept o s cap q = true := by rw [HP.out.2.2.1, hfq]; exact decide_eq_true (by omega)
                have hks := HP.out.2.2.2.1
                rw [hkq] at hks
                simp only [if_true] at hks
                obtain ⟨ho5, hg5, hat5, hlt5⟩ := H5.out
                have hs5 := hg5.size
                simp at hs5
                have hb5 : ∀ k, k < w.heap.size + 2 → w5.heap[k]? = wr.heap[k]? := fun k hk => (hg5.block k (by simp; omega) (fun e => absurd (hv2 k e.symm) (by omega))).trans (Below.heap_alloc _ _ _ (by show k < wr.heap.size; omega))
                rw [← ints_append, ← hks] at ho5
                refine ⟨q + 1, by omega, by go_num, _, ?_, ho5, fun g hg => ?_, ⟨q, rfl, fun h => absurd h (by omega), fun _ => by rw [Nat.add_sub_cancel]; exact hfq.symm⟩, fun j hj => ?_, hv4.of_block (hb5 _ (by omega)), ?_, by omega⟩
                · rw [hks]; simp
                · simp [Value.ownBlock] at hg
                  subst hg
                  rcases hat5 with h | h
                  · exact hv2 _ h
                  · rw [h]; simp; omega
                · rw [World.cell?_of_block (hb5 (w.heap.size + 1) (by omega))]; exact hv3 j hj
                · exact Keeps.grown ((hv5.drewN nq).alloc _) hg5 (fun k hk hl => absurd (hv2 k hk) (by omega))
              case measure => simp [intOf]; omega
            · have d1 : ¬ (q : Int) - (q : Int) < ((cap / sx : Nat) : Int) := by omega
              generalize cap / sx = dv at *
              go_wp2_with fail
              go_quiet (fail)
              rename_i K1 hK1
              refine hK1 _ _ ?_
              clear hK1
              go_wp2_with fail
              go_roundw
              case rel =>
                obtain ⟨hv1, hv2, hv3, hv4, hv5, hv6⟩ := HV.out
                have hfq : fst o s q = q := by have := HP.out.2.1; simpa [heq] using this
                have hkq : kept o s cap q = false := by rw [HP.out.2.2.1, hfq]; exact decide_eq_false (by omega)
                have hks := HP.out.2.2.2.1
                rw [hkq] at hks
                simp only [Bool.false_eq_true, if_false, List.append_nil] at hks
                refine ⟨q + 1, by omega, by go_num, _, by rw [hks], ?_, hv2, ⟨q, rfl, fun h => absurd h (by omega), fun _ => by rw [Nat.add_sub_cancel]; exact hfq.symm⟩, hv3, World.rowIs.of_block hv4 (w' := wr.drewN nq) rfl, hv5.drewN nq, hv6⟩
                rw [hks]; exact ownsRow_drewN hv1 nq
              case measure => simp [intOf]; omega
        · obtain rfl : q = k := by omega
          have b1 : ¬ (q : Int) < (q : Int) := by omega
          obtain ⟨a, cp, hkv, _⟩ := own_shape how
          subst hkv
          subst hlen
          have hpl : (kpt o s cap q).length = (kl o s cap q).length := (kpt_perm o s cap q).length_eq
          have hkl : (kl o s cap q).length ≤ q := by unfold kl; simp; exact Nat.le_trans (List.length_filter_le _ _) (by simp)
          have hkF : Keeps (fun _ => False) w wr := hkr.mono (fun k hk h => absurd h (by omega))
          have HK : Hid (_) := hkF
          by_cases h0 : (kl o s cap q).length = 0
          · rw [h0]
            have hkn : kpt o s cap q = [] := List.eq_nil_of_length_eq_zero (by omega)
            have hS := Yba.slices_Sort_int_none a cp wr
            have HS : Hid (_) := hS
            clear hS how hoc hbxr hkr hob hkF
            go_wp2_with (go_at_call 28; refine Calls.mono HS.out ?_; rintro e w6 ⟨rfl, rfl⟩)
            go_ret
            refine ⟨a, cp, by rw [hkn]; rfl, fun h => absurd hkn h, HK.out⟩
          · rcases how.2 with ⟨hv, h0'⟩ | ⟨g, cap', cur, hv, hg, hh, hnn, hc, hs', ht⟩
            · exact absurd h0' h0
            · simp only [Value.slice.injEq] at hv
              obtain ⟨rfl, _, rfl⟩ := hv
              have hS := sort28 w.heap.size g cp o s cap q wr how (by omega)
              have hgl := ownsRow_lt how g rfl
              have hgb := hob g rfl
              have HS : Hid (_) := hS
              clear hS how hoc hbxr hkr hob hkF ht hs' hh
              go_wp2_with (go_at_call 28; refine Calls.mono HS.out ?_; rintro e w6 ⟨rfl, hO6, hK6⟩; have H6 : Hid (_) := And.intro hO6 hK6; clear hO6 hK6)
              go_ret
              have hs6 := H6.out.2.size
              refine ⟨_, cp, by rw [hpl]; rfl, fun _ => ⟨g, rfl, by omega, by omega, H6.out.1⟩, ?_⟩
              exact HK.out.trans (H6.out.2.mono (E := fun k => k = g) (fun _ _ h => h)) (fun k hk h => by have : k = g := h; omega)
end Go.Proofs.Ybulkbnbu.Kn
