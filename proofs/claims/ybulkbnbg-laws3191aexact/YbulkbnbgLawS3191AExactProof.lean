/-
  THE PROOF OF 'Rows.LawS3191AExactSaid'. The frame is the guide's shell at this function (the closing line goes by 'Below'); the walks are this seat's.
-/
import Derived.Test.YbulkbnbgRows
import Derived.WalkKit
import Derived.ProofKit
import Derived.OpenShut
import Derived.ShutString
import Derived.Laws.IdiomStrings
import Derived.Below
namespace Go.Proofs.Ybulkbnbg.lawS3191AExact
open Go.ChangeShapes Go.WideShapes Go.ChangeAt Go.RowKit
open Go.ChangeMaps (open_string shut_string)
set_option linter.unusedVariables false      -- a walk need not use every 'w<i>' (that an integer argument fits its kind)

theorem own : ownKnob Yba.prog.godebug = none := by kernel_rfl


theorem info5 : (Yba.prog.info? 5).map (fun i => (i.zero, i.size, i.bytes)) = some (some (.int .u8 0), 1, 1) := by kernel_rfl

def vals (l : List UInt8) : List Value := l.map fun b => .int .u8 (b.toNat : Int)

theorem take_snoc (s : ByteArray) (k : Nat) (h : k < s.size) : s.data.toList.take (k + 1) = s.data.toList.take k ++ [s[k]] := by
  rw [List.take_succ_eq_append_getElem (by simpa using h)]; rfl

theorem vals_snoc (s : ByteArray) (k : Nat) (h : k < s.size) : vals (s.data.toList.take (k + 1)) = vals (s.data.toList.take k) ++ [.int .u8 (s[k].toNat : Int)] := by
  rw [take_snoc s k h]; simp [vals]

/-- The string that the cells make. -/
theorem conv (w : World) (g cap : Nat) (l : List UInt8) (base : Nat) (h : w.ownsRow base 5 1 (.slice (some ⟨g, 0, none⟩) l.length cap) l.length (vals l)) :
    (convert 24 9 (.slice (some ⟨g, 0, none⟩) l.length cap)).run Yba.prog w = .ok (.string ⟨l.toArray⟩) w := by
  refine run_convert_bytes_back w 24 9 5 ⟨g, 0, none⟩ cap l Yba.underlying24 Yba.underlying5 Yba.underlying9 fun j hj => ?_
  have := h.cellAt j (by omega)
  rw [Addr.add_lit, Nat.zero_add, this]
  simp [vals, hj]

theorem ret_str {a b : ByteArray} (h : a = b) : Ending.returned (.string a) = .returned (.string b) := by rw [h]

/-- What both sides answer. -/
def cutText (s : ByteArray) : ByteArray := s.extract 0 40 ++ ⟨#[46, 46, 46]⟩

theorem cutText_eq (s : ByteArray) : (⟨(s.data.toList.take 40 ++ [46, 46, 46]).toArray⟩ : ByteArray) = cutText s := by
  unfold cutText
  apply ByteArray.ext
  simp [ByteArray.data_append, ByteArray.data_extract]

theorem cutText_size (s : ByteArray) (h : 40 < s.size) : (cutText s).size = 43 := by
  unfold cutText
  simp [ByteArray.size_append, ByteArray.size_extract]
  have : (⟨#[46, 46, 46]⟩ : ByteArray).size = 3 := rfl
  omega

theorem shortened_le (s : ByteArray) (w : World) (hs : s.size ≤ maxLen) (h : s.size ≤ 40) :
    Calls Yba.prog 4 #[.string s] w fun e w' => e = .returned (.string s) ∧ w' = w := by
  unfold maxLen at hs
  go_enter Yba.func4, Yba.ntmps4
  go_wp2
  go_ret
  exact ⟨rfl, rfl⟩

theorem shortened_gt (s : ByteArray) (w : World) (hs : s.size ≤ maxLen) (h : 40 < s.size) :
    Calls Yba.prog 4 #[.string s] w fun e w' => e = .returned (.string (cutText s)) ∧ w' = w := by
  unfold maxLen at hs
  go_enter Yba.func4, Yba.ntmps4
  go_wp2
  go_ret
  exact ⟨rfl, rfl⟩

theorem model_le (s : ByteArray) (w : World) (hs : s.size ≤ maxLen) (h : s.size ≤ 40) :
    Calls Yba.prog 5 #[.string s] w fun e w' => e = .returned (.string s) ∧ Below w.heap.size w w' := by
  unfold maxLen at hs
  obtain ⟨i0, hi, hz0, hz1, hz2⟩ := info_parts info5
  go_enter Yba.func5, Yba.ntmps5
  go_wp2_with (at_make; refine wpList_make_own _ rfl _ _ 24 rfl w.heap.size 5 i0 (.int .u8 0) 1 Yba.underlying24 hi hz0 hz1 .i64 .i64 _ (s.size + 3) rfl rfl (by omega) (by rw [hz2]; omega) (by unfold maxLen; omega) (Nat.le_refl _) ?_; intro w1 hown hgrow)
  have hb1 := (Below.refl w.heap.size w).grown hgrow (Nat.le_refl _) (by simp)
  clear hgrow
  go_loopw [4, 5] (fun v i wr => ∃ k : Nat, k ≤ s.size ∧ i = .int .i64 k ∧ v = .slice (some ⟨w.heap.size, 0, none⟩) k (s.size + 3) ∧ wr.ownsRow w.heap.size 5 1 (.slice (some ⟨w.heap.size, 0, none⟩) k (s.size + 3)) k (vals (s.data.toList.take k)) ∧ Below w.heap.size w wr) (fun _ i _ => s.size - (intOf i).toNat)
  case atStart => exact ⟨0, Nat.zero_le _, rfl, rfl, hown, hb1⟩
  case round =>
    obtain ⟨k, hk, rfl, rfl, hown, hb⟩ := hrel
    by_cases hlt : k < s.size
    · go_wp2_with (at_builtin; refine wpList_append_fits _ rfl (.tmp 18) (.tmp 22) 24 rfl w.heap.size 5 i0 1 Yba.underlying24 hi hz1 w.heap.size k (s.size + 3) _ rfl (hown.alloc _) ⟨wr.heap.size, 0, none⟩ 1 1 [.int .u8 (s[k].toNat : Int)] rfl rfl (by intro j u hj; match j, hj with | 0, hj => simp at hj; subst hj; simp [Addr.add]) (by intro u hu; simp at hu; subst hu; rfl) (by omega) ?_; intro w2 hown2 hgrow2)
      have hb2 := (hb.alloc hb.size (.cells #[.int .u8 (s[k].toNat : Int)] 5)).grown hgrow2 (by have := hb.size; simp; omega) (by simp)
      rw [← vals_snoc s k hlt] at hown2
      clear hown hgrow2 hb
      go_roundw
      case rel => exact ⟨k + 1, by omega, by go_num, rfl, hown2, hb2⟩
      case measure => simp [intOf]; omega
    · obtain rfl : k = s.size := by omega
      have hc := conv wr w.heap.size (s.size + 3) (s.data.toList.take s.size) w.heap.size (by simpa using hown)
      rw [List.length_take] at hc
      simp at hc
      go_wp2
      go_ret
      exact ⟨ret_str (by simp [List.take_of_length_le]), hb⟩

theorem model_gt (s : ByteArray) (w : World) (hs : s.size ≤ maxLen) (h : 40 < s.size) :
    Calls Yba.prog 5 #[.string s] w fun e w' => e = .returned (.string (cutText s)) ∧ Below w.heap.size w w' := by
  unfold maxLen at hs
  obtain ⟨i0, hi, hz0, hz1, hz2⟩ := info_parts info5
  go_enter Yba.func5, Yba.ntmps5
  go_wp2_with (at_make; refine wpList_make_own _ rfl _ _ 24 rfl w.heap.size 5 i0 (.int .u8 0) 1 Yba.underlying24 hi hz0 hz1 .i64 .i64 _ 43 rfl rfl (by omega) (by rw [hz2]; omega) (by unfold maxLen; omega) (Nat.le_refl _) ?_; intro w1 hown hgrow)
  have hb1 := (Below.refl w.heap.size w).grown hgrow (Nat.le_refl _) (by simp)
  clear hgrow
  go_loopw [4, 5] (fun v i wr => ∃ k : Nat, k ≤ 40 ∧ i = .int .i64 k ∧ v = .slice (some ⟨w.heap.size, 0, none⟩) k 43 ∧ wr.ownsRow w.heap.size 5 1 (.slice (some ⟨w.heap.size, 0, none⟩) k 43) k (vals (s.data.toList.take k)) ∧ Below w.heap.size w wr) (fun _ i _ => 40 - (intOf i).toNat)
  case atStart => exact ⟨0, Nat.zero_le _, rfl, rfl, hown, hb1⟩
  case round =>
    obtain ⟨k, hk, rfl, rfl, hown, hb⟩ := hrel
    by_cases hlt : k < 40
    · have hlt' : k < s.size := by omega
      go_wp2_with (at_builtin; refine wpList_append_fits _ rfl (.tmp 18) (.tmp 22) 24 rfl w.heap.size 5 i0 1 Yba.underlying24 hi hz1 w.heap.size k 43 _ rfl (hown.alloc _) ⟨wr.heap.size, 0, none⟩ 1 1 [.int .u8 (s[k].toNat : Int)] rfl rfl (by intro j u hj; match j, hj with | 0, hj => simp at hj; subst hj; simp [Addr.add]) (by intro u hu; simp at hu; subst hu; rfl) (by omega) ?_; intro w2 hown2 hgrow2)
      have hb2 := (hb.alloc hb.size (.cells #[.int .u8 (s[k].toNat : Int)] 5)).grown hgrow2 (by have := hb.size; simp; omega) (by simp)
      rw [← vals_snoc s k hlt'] at hown2
      clear hown hgrow2 hb
      go_roundw
      case rel => exact ⟨k + 1, by omega, by go_num, rfl, hown2, hb2⟩
      case measure => simp [intOf]; omega
    · obtain rfl : k = 40 := by omega
      go_wp2_with (at_builtin; refine wpList_append_fits _ rfl (.tmp 27) (.tmp 28) 24 rfl w.heap.size 5 i0 1 Yba.underlying24 hi hz1 w.heap.size 40 43 _ rfl (hown.alloc _) ⟨wr.heap.size, 0, none⟩ 3 3 [.int .u8 46, .int .u8 46, .int .u8 46] rfl rfl (by intro j u hj; match j, hj with | 0, hj => simp at hj; subst hj; simp [Addr.add] | 1, hj => simp at hj; subst hj; simp [Addr.add] | 2, hj => simp at hj; subst hj; simp [Addr.add]) (by intro u hu; simp at hu; subst hu; rfl) (by omega) ?_; intro w2 hown2 hgrow2; have hb2 := (hb.alloc hb.size (.cells #[.int .u8 46, .int .u8 46, .int .u8 46] 5)).grown hgrow2 (by have := hb.size; simp; omega) (by simp); have hc := conv w2 w.heap.size 43 (s.data.toList.take 40 ++ [46, 46, 46]) w.heap.size (by rw [List.length_append, List.length_take, Array.length_toList, Nat.min_eq_left (by simpa using (by omega : 40 ≤ s.size))]; exact (by simpa [vals] using hown2)); rw [List.length_append, List.length_take, Array.length_toList, Nat.min_eq_left (by simpa using (by omega : 40 ≤ s.size)), cutText_eq] at hc; have hc' : (convert 24 9 (.slice (some ⟨w.heap.size, 0, none⟩) 43 43)).run Yba.prog w2 = .ok (.string (cutText s)) w2 := hc; clear hc; clear hown2 hgrow2 hown)
      go_ret
      exact ⟨rfl, by assumption⟩

theorem walk (a0 : ByteArray) (w0 : a0.size ≤ maxLen) (w : World) :
    Calls Yba.prog 3 #[.string a0] w fun e w' => e = .returned (.bool true) ∧ Below w.heap.size w w' := by
  by_cases h : a0.size ≤ 40
  · go_enter Yba.func3, Yba.ntmps3
    go_wp2_with (first
      | (go_at_call 4; refine (shortened_le _ _ w0 h).mono ?_; rintro e w' ⟨rfl, rfl⟩)
      | (go_at_call 5; refine (model_le _ _ w0 h).mono ?_; rintro e w1 ⟨rfl, hb⟩))
    go_ret
    exact ⟨by simp, by assumption⟩
  · have h' : 40 < a0.size := by omega
    have hsz := cutText_size a0 h'
    go_enter Yba.func3, Yba.ntmps3
    go_wp2_with (first
      | (go_at_call 4; refine (shortened_gt _ _ w0 h').mono ?_; rintro e w' ⟨rfl, rfl⟩)
      | (go_at_call 5; refine (model_gt _ _ w0 h').mono ?_; rintro e w1 ⟨rfl, hb⟩))
    go_ret
    exact ⟨by simp, by assumption⟩

/-! ### THE ROW's STEP: WRITTEN OUT: LEAVE IT -/
set_option maxRecDepth 100000 in
theorem lifted (os : Os) (started : os.Started) (H : Type) (enc : TypeId × Value → H) :
    ReturnsInHanded {} Yba.checked os 3 .any (Rows.lawS3191AExactSpec.pre6 enc Yba.prog Yba.f3 Rows.lawS3191AExactRow.domain false) (Rows.lawS3191AExactSpec.post enc Yba.prog Yba.f3 false true false false) := by
  refine returnsInHanded_of_change (C := Yba.checked) own started (by kernel_rfl) Yba.func3
    (ChangeSpec.witness6 (enc := enc) (C := Yba.checked) false ⟨#[], #[.string ByteArray.empty], []⟩ 8 (by kernel_rfl) (by kernel_rfl) (by kernel_rfl) (by kernel_rfl)) ?_
  intro W base args ds gs before hval0 hW hcnd _
  have hval : ∀ (j : Nat) t v, Yba.f3.params[j]? = some t → args[j]? = some v → Value.okWide Yba.prog W .any base t v := hval0
  have hW' := hW
  obtain ⟨p, q, hA0, hV, rfl, hfz, hnd⟩ := hW
  have hA : DataW.TrodAll enc Yba.prog W 0 (fun _ => true) true Yba.f3.params.toList args.toList ds p := hA0
  rw [Yba.params3] at hA hval
  obtain ⟨v0, vs0, d0, ds0, p0, q0, hargs, rfl, rfl, h0, r0⟩ := trodAll_cons hA
  obtain ⟨rfl, rfl, rfl⟩ := trodAll_nil r0
  obtain rfl : args = #[v0] := by cases args; simp_all
  obtain ⟨rfl, rfl⟩ := trodVars_none hV
  obtain ⟨a0, rfl, rfl, rfl, w0⟩ := open_string Yba.underlying9 (hval 0 9 v0 rfl rfl) h0
  clear hA0 hval0
  simp only [List.append_nil] at hW'
  refine (walk a0 w0 W).mono fun e W' ⟨he, bel⟩ => ?_
  subst he
  exact ⟨_, rfl, _, _, _, [], _, [], hW', trodAll_mk1 (shut_bool Yba.underlying4 _), (trodAll_cons_mk (shut_string Yba.underlying9 w0) trodAll_mk0), rfl, bel.frame _, fun h => by cases h⟩

theorem over : Rows.lawS3191AExactRow.holds Yba.pinned (OpenSpec.ofChange Rows.lawS3191AExactSpec) :=
  OpenClaim.holds_of_wide 3 Yba.f3 rfl rfl rfl rfl rfl rfl rfl ⟨rfl, rfl, rfl, rfl, rfl⟩ rfl rfl rfl rfl rfl (by kernel_rfl) Yba.func3 (by kernel_rfl)
    (of_decide_eq_true (by kernel_rfl)) (by unfold Func.isWrapper; first | (rw [if_pos (by decide +kernel)]; kernel_rfl) | (rw [if_neg (by decide +kernel)]; exact ⟨rfl, rfl⟩))
    (fun os started H enc _ => lifted os started H enc)

/-- ████ THE STATEMENT ████ -/
theorem proved : Rows.LawS3191AExactSaid :=
  over
#print axioms proved
end Go.Proofs.Ybulkbnbg.lawS3191AExact
