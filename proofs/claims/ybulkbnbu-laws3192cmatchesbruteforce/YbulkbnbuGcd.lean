/-
  gcd (function 10); slices.Clone and slices.Equal at items (functions 6, 8).
-/
import Derived.Test.YbulkbnbuOut
import Derived.Lib.SliceRun
import Derived.WalkSpells
namespace Go.Proofs.Ybulkbnbu.Kn
set_option linter.unusedSimpArgs false
set_option linter.unusedVariables false
open Go.ChangeShapes Go.WideShapes Go.ChangeAt Go.RowKit
open Go.Proofs.Ybulkbnbu.Fl

set_option maxRecDepth 100000 in
set_option maxHeartbeats 4000000 in
theorem gcd_any (a b : Nat) (w : World) (ha : a < 1000) (hb : b < 1000) :
    Calls Yba.prog 10 #[.int .i64 (a : Int), .int .i64 (b : Int)] w fun e w' => e = .returned (.int .i64 ((Nat.gcd a b : Nat) : Int)) ∧ Keeps (fun _ => False) w w' := by
  go_enter Yba.func10, Yba.ntmps10
  go_wp2
  go_loopw [0, 1] (fun x y wr => ∃ p q : Nat, x = .int .i64 (p : Int) ∧ y = .int .i64 (q : Int) ∧ p < 1000 ∧ q < 1000 ∧ Nat.gcd p q = Nat.gcd a b ∧ Keeps (fun _ => False) w wr) (fun _ y _ => (intOf y).toNat)
  case atStart => exact ⟨a, b, rfl, rfl, ha, hb, rfl, Keeps.refl _ _⟩
  case round =>
    obtain ⟨p, q, rfl, rfl, hp, hq, hg, hk⟩ := hrel
    by_cases h0 : q = 0
    · subst h0
      have hg' : p = Nat.gcd a b := by simpa using hg
      have HG : Hid (_) := hg'
      clear hg hg'
      go_wp2
      go_ret
      exact ⟨by rw [← HG.out]; rfl, hk⟩
    · have h1 : ¬ (q : Int) = 0 := by omega
      have e1 : Int.tmod (p : Int) (q : Int) = ((p % q : Nat) : Int) := by
        rw [Int.tmod_eq_emod_of_nonneg (by omega)]; simp
      have hlt : p % q < q := Nat.mod_lt _ (by omega)
      have HG : Hid (_) := hg
      have HK : Hid (_) := hk
      clear hg hk
      generalize hr : p % q = r at *
      go_wp2_with fail
      go_region
      all_goals
        go_wp2
        go_roundw
        case rel => exact ⟨q, r, rfl, by first | rfl | go_num, hq, by omega, by rw [← HG.out, ← hr, Nat.gcd_comm q, ← Nat.gcd_rec, Nat.gcd_comm], HK.out.drew⟩
        case measure => simp [intOf]; omega

def Cloned (n : Nat) (F : Nat → Value) (w : World) (e : Ending) (w' : World) : Prop := ∃ g c', e = .returned (.slice (some ⟨g, 0, none⟩) n c') ∧ (∀ j, j < n * 2 → w'.cell? ⟨g, j, none⟩ = some (F j)) ∧ w.heap.size ≤ g ∧ g < w'.heap.size ∧ Keeps (fun _ => False) w w'
set_option maxRecDepth 100000 in
set_option maxHeartbeats 4000000 in
theorem clone_any (ib n c : Nat) (F : Nat → Value) (w : World) (hn : n ≤ 1000) (hr : w.rowIs ib 28 (n * 2) F) (h1 : ∀ j, j < n * 2 → (F j).oneCell' = true) :
    Calls Yba.prog 6 #[.slice (some ⟨ib, 0, none⟩) n c] w (Cloned n F w) := by
  have q23 : ∀ (w : World) (a : Option Addr) (n c n' c' : Nat), (binOp .eql 23 (.slice a n c) (.slice none n' c')).run Yba.prog w = .ok (.bool a.isNone) w := fun w a n c n' c' => Lib.run_eql_slice_nil w _ _ a n c n' c' Yba.underlying23
  have hown : (w.alloc (.cells #[] 28)).ownsRow w.heap.size 28 2 (.slice (some ⟨w.heap.size, 0, none⟩) 0 0) 0 [] := World.ownsRow_lit w #[] 0 (Nat.le_refl _) (by unfold maxLen; omega) rfl
  obtain ⟨i0, hi0, hz0, hz1, hz2⟩ := info_parts info28
  have hcell : ∀ (j : Nat) (u : Value), ((List.range (n * 2)).map F)[j]? = some u → (w.alloc (.cells #[] 28)).cell? (Addr.add ⟨ib, 0, none⟩ j) = some u := fun j u hj => by
    obtain ⟨hl, e⟩ := List.getElem?_eq_some_iff.1 hj
    simp at hl e
    subst e
    have := (hr.alloc (.cells #[] 28)).cell (i := j) hl
    rw [show Addr.add ⟨ib, 0, none⟩ j = (⟨ib, j, none⟩ : Addr) by unfold Addr.add; split <;> simp_all]
    exact this
  have hone : ∀ u ∈ (List.range (n * 2)).map F, u.oneCell' = true := fun u hu => by
    obtain ⟨j, hj, rfl⟩ := List.mem_map.1 hu
    exact h1 j (List.mem_range.1 hj)
  have HR : Hid (_) := hr
  have HO : Hid (_) := hown
  clear hr hown h1
  by_cases h0 : n = 0
  · subst h0
    clear hcell hone
    go_enter Yba.func6, Yba.ntmps6
    go_wp2_with (at_builtin; refine wpList_append_fits _ rfl (.tmp 5) (.tmp 6) 23 rfl w.heap.size 28 i0 2 Yba.underlying23 hi0 hz1 w.heap.size 0 0 [] rfl HO.out ⟨ib, 0, none⟩ 0 c [] rfl rfl (by intro j q' hj; simp at hj) (by intro q' hq; simp at hq) (by omega) ?_; intro w2 ho2 hgrow2; have HL : Hid (_) := ownsRow_lt ho2 w.heap.size rfl; have HK : Hid (_) := Keeps.grown (D := fun k => False) ((Keeps.refl _ w).alloc _) hgrow2 (fun k hk hl => by simp at hk; omega); clear ho2 hgrow2)
    go_ret
    exact ⟨_, _, rfl, fun j hj => absurd hj (by omega), Nat.le_refl _, HL.out, HK.out⟩
  · have hpos : 0 < n := by omega
    have hlen : ((List.range (n * 2)).map F).length = n * 2 := by simp
    have HC : Hid (_) := hcell
    have HN : Hid (_) := hone
    clear hcell hone
    go_enter Yba.func6, Yba.ntmps6
    go_wp2_with (at_builtin; (refine wpList_append_lies _ rfl (.tmp 5) (.tmp 6) 23 rfl w.heap.size 28 i0 _ 2 16 Yba.underlying23 hi0 hz0 hz1 hz2 rfl (by omega) _ 0 [] rfl HO.out ⟨ib, 0, none⟩ n c ((List.range (n * 2)).map F) rfl hlen HC.out HN.out hpos (by unfold maxLen; omega) (by omega) (by simp) _ rfl ?_; intro g cap w2 ho2 hgrow2 hat hlt; have HW : Hid (_) := ho2; have HA : Hid (_) := hat; have HL : Hid (_) := hlt; have HK : Hid (_) := Keeps.grown (D := fun k => False) ((Keeps.refl _ w).alloc _) hgrow2 (fun k hk hl => by have e : some w.heap.size = some k := hk; simp at e; omega); clear ho2 hgrow2 hat hlt))
    have ho := HW.out
    rw [Nat.zero_add, List.nil_append] at ho
    go_ret
    refine ⟨_, _, rfl, fun j hj => ?_, ?_, HL.out, HK.out⟩
    · obtain ⟨a, cap', hv, hc⟩ := own_shape ho
      obtain ⟨b, e1, e2⟩ := hc j (F j) (by simp [hj])
      simp at hv
      obtain ⟨rfl, _⟩ := hv
      simp at e1
      subst e1
      exact e2
    · rcases HA.out with h | h
      · have e : some w.heap.size = some g := h; simp at e; omega
      · rw [h]; simp
theorem run_equalIn_flt (w : World) (d : Nat) (t : TypeId) (k : FloatKind) (a b : Nat) (h : Yba.prog.underlying t = some (.float k)) : (Op.equalIn (d + 1) t (.float k a) (.float k b)).run Yba.prog w = .ok (Op.floatEq k a b) w := by
  simp [Op.equalIn, run_underlying h]
theorem ne_item (n : Int) (a : Nat) (w : World) (ha : a < 2 ^ 53) : (binOp .neq 28 (.agg #[.int .i64 n, .float .f64 (W a)]) (.agg #[.int .i64 n, .float .f64 (W a)])).run Yba.prog w = .ok (.bool false) w := by
  have ho : FloatKind.f64.format.order (W a) (W a) = some .eq := by
    have := order_W a a ha ha
    rw [Nat.compare_eq_eq.2 rfl] at this; exact this
  have hq : (Op.equalIn 9999 26 (.float .f64 (W a)) (.float .f64 (W a))).run Yba.prog w = .ok true w := by
    rw [run_equalIn_flt w 9998 26 .f64 _ _ Yba.underlying26]; simp [Op.floatEq, ho]
  rw [run_neq_struct, run_equalIn_agg w 9999 28 _ _ (by kernel_rfl) (by kernel_rfl), show (Yba.prog.fieldsOf 28).toList = [⟨"Size", 3, 0, false, "", "", 0⟩, ⟨"Value", 26, 1, false, "", "", 8⟩] by kernel_rfl]
  simp [Op.eqFields, part, Yba.isAgg3, Yba.isAgg26, hq, run_equalIn_int w 9998 3 .i64 .i64 n n Yba.underlying3]
set_option maxRecDepth 100000 in
set_option maxHeartbeats 4000000 in
theorem equal_any (ib g n c c' : Nat) (sz : Nat → Int) (vl : Nat → Nat) (w : World) (hn : n ≤ 1000) (hv : ∀ i, vl i < 1000) (h1 : ∀ j, j < n * 2 → w.cell? ⟨ib, j, none⟩ = some (itemF sz vl j)) (h2 : ∀ j, j < n * 2 → w.cell? ⟨g, j, none⟩ = some (itemF sz vl j)) :
    Calls Yba.prog 8 #[.slice (some ⟨ib, 0, none⟩) n c, .slice (some ⟨g, 0, none⟩) n c'] w fun e w' => e = .returned (.bool true) ∧ Keeps (fun _ => False) w w' := by
  have hE := fun i w => ne_item (sz i) (vl i) w (by have := hv i; omega)
  go_enter Yba.func8, Yba.ntmps8
  have hnn : ((n : Int) != (n : Int)) = false := by simp
  go_wp2_with fail
  go_loopw [13] (fun i wr => ∃ k : Nat, k ≤ n ∧ i = .int .i64 (k : Int) ∧ Keeps (fun _ => False) w wr) (fun i _ => n - (intOf i).toNat)
  case atStart => exact ⟨0, Nat.zero_le _, rfl, Keeps.refl _ _⟩
  case round =>
    obtain ⟨k, hk, rfl, hkp⟩ := hrel
    by_cases hlt : k < n
    · have e0 : itemF sz vl (k * 2) = .int .i64 (sz k) := by unfold itemF; rw [if_pos (by omega)]; congr 2; omega
      have e1 : itemF sz vl (k * 2 + 1) = .float .f64 (W (vl k)) := by unfold itemF; rw [if_neg (by omega)]; congr 3; omega
      have a0 := hkp.cell (h1 (k * 2) (by omega)) (fun h => h)
      have a1 := hkp.cell (h1 (k * 2 + 1) (by omega)) (fun h => h)
      have b0 := hkp.cell (h2 (k * 2) (by omega)) (fun h => h)
      have b1 := hkp.cell (h2 (k * 2 + 1) (by omega)) (fun h => h)
      rw [e0] at a0 b0
      rw [e1] at a1 b1
      have HK : Hid (_) := hkp
      have hE' := hE k
      clear hkp h1 h2 e0 e1 hE
      generalize sz k = x at *
      generalize vl k = y at *
      go_wp2_with fail
      go_quiet (fail)
      rename_i K1 hK1
      refine hK1 _ _ ?_
      go_wp2_with fail
      go_roundw
      case rel => exact ⟨k + 1, by omega, by go_num, HK.out.drewN _⟩
      case measure => simp [intOf]; omega
    · have HK : Hid (_) := hkp
      clear hkp
      go_wp2_with fail
      go_ret
      exact ⟨rfl, HK.out⟩
end Go.Proofs.Ybulkbnbu.Kn
