/-
  stateNotify, slices.Contains.
-/
import Derived.Test.YbulkbndkDoorNtf
namespace Go.Proofs.YbulkbndkDoor.Pr
set_option linter.unusedSimpArgs false
open Go.ChangeShapes Go.WideShapes Go.ChangeAt Go.RowKit

/-- What the table of states holds. -/
structure Glob (w : World) (gm : Nat) (es : Array MapEntry) (cl : Nat) : Prop where
  cell : w.cell? ⟨0, 0, none⟩ = some (.map (some gm))
  map : w.heap[gm]? = some (.map es cl)
  look : ∀ st w', w'.heap[gm]? = some (.map es cl) → (Instr.lookup 170 (.map (some gm)) (asS st) false).run Ybad.prog w' = .ok (.int .u32 (asN st : Int)) w'
theorem Glob.fr {B : Nat} {T : List TypeId} {w w' : World} {gm cl : Nat} {es : Array MapEntry} (h : Glob w gm es cl) (hF : Fr B T w w') (hB : 0 < B) : Glob w' gm es cl :=
  ⟨hF.cellLow hB h.cell, hF.map h.map, h.look⟩

theorem asN_lt (s : Nat) : asN s < 4294967296 := by unfold asN; split <;> (try split) <;> (try split) <;> omega
theorem asS_str (s : Nat) : ∃ b, asS s = .string b := by unfold asS; split <;> (try split) <;> (try split) <;> exact ⟨_, rfl⟩

set_option maxRecDepth 100000 in
set_option maxHeartbeats 1000000 in
theorem stateNotify_any (A s rc : Nat) (hrc : rc < 4294967296) (w : World) (gm cl : Nat) (es : Array MapEntry) (hG : Glob w gm es cl) (hA : w.cell? ⟨A, 1, none⟩ = some (.int .u32 (rc : Int))) (hS : w.cell? ⟨A, 7, none⟩ = some (asS s)) : Calls Ybad.prog 15 #[.pointer (some ⟨A, 0, none⟩)] w fun e w' =>
    ∃ p, e = .returned (.pointer (some ⟨p, 0, none⟩)) ∧ IsMsg w' p (asN s) rc ∧ Fr 0 [] w w' := by
  have hst := asN_lt s
  have hg := hG.cell
  obtain ⟨b, hb⟩ := asS_str s
  have hm := hG.map
  have hL : ∀ w' : World, w'.heap[gm]? = some (.map es cl) → (Instr.lookup 170 (.map (some gm)) (.string b) false).run Ybad.prog w' = .ok (.int .u32 (asN s : Int)) w' := fun w' h => by have := hG.look s w' h; rwa [hb] at this
  rw [hb] at hS
  have HL : Hid (∀ w' : World, w'.heap[gm]? = some (.map es cl) → (Instr.lookup 170 (.map (some gm)) (.string b) false).run Ybad.prog w' = .ok (.int .u32 (asN s : Int)) w') := hL
  have hl0 := hL w hm
  have HM0 : Hid (w.heap[gm]? = some (.map es cl)) := hm
  clear hG hL hm hb
  go_enter Ybad.func15, Ybad.ntmps15
  go_wp2_with fail
  go_region_held3 (fun w' => w'.cell? ⟨0, 0, none⟩ = some (.map (some gm)) ∧ w'.cell? ⟨A, 7, none⟩ = some (.string b) ∧ (Instr.lookup 170 (.map (some gm)) (.string b) false).run Ybad.prog w' = .ok (.int .u32 (asN s : Int)) w')
    (first
      | (go_split_ands; refine ⟨by go_keep, by go_keep, ?_⟩; first | assumption | exact HL.out _ HM0.out)
      | (go_split_ands; exact ⟨HF.out.keepCell hg rfl, HF.out.keepCell hS rfl, HL.out _ (HF.out.map HM0.out)⟩))
    (first | (go_at_call 11; refine (notify_any A (asN s) rc hst hrc _ (by assumption)).mono ?_; rintro e w1 ⟨p, rfl, hM, hF⟩; have HM : Hid (IsMsg w1 p (asN s) rc) := hM; have HF : Hid (Fr 0 [] w w1) := ((Fr.refl 0 [] w).drew).trans hF; clear hM hF))
  go_wp2_with fail
  go_ret
  exact ⟨p, rfl, HM.out, HF.out⟩

set_option maxRecDepth 100000 in
set_option maxHeartbeats 1000000 in
theorem index1 (b : Nat) (s x : ByteArray) (w : World) (h0 : w.cell? ⟨b, 0, none⟩ = some (.string s)) : Calls Ybad.prog 23 #[.slice (some ⟨b, 0, none⟩) 1 1, .string x] w fun e w' => e = .returned (.int .i64 (if x.toList == s.toList then 0 else -1)) ∧ w' = w := by
  cases e : (x.toList == s.toList)
  all_goals
    go_enter Ybad.func23, Ybad.ntmps23
    go_wp2_with fail
    refine wp_loop_rounds 2 ?_
    rw [rounds_succ]
    go_wp2_with fail
    try (rw [rounds_succ]; go_wp2_with fail)
    go_ret
    exact ⟨rfl, rfl⟩

set_option maxRecDepth 100000 in
set_option maxHeartbeats 1000000 in
theorem index2 (b : Nat) (s s' x : ByteArray) (w : World) (h0 : w.cell? ⟨b, 0, none⟩ = some (.string s)) (h1 : w.cell? ⟨b, 1, none⟩ = some (.string s')) : Calls Ybad.prog 23 #[.slice (some ⟨b, 0, none⟩) 2 2, .string x] w fun e w' => e = .returned (.int .i64 (if x.toList == s.toList then 0 else if x.toList == s'.toList then 1 else -1)) ∧ w' = w := by
  cases e : (x.toList == s.toList) <;> cases e' : (x.toList == s'.toList)
  all_goals
    go_enter Ybad.func23, Ybad.ntmps23
    go_wp2_with fail
    refine wp_loop_rounds 3 ?_
    rw [rounds_succ]
    go_wp2_with fail
    try (rw [rounds_succ]; go_wp2_with fail)
    try (rw [rounds_succ]; go_wp2_with fail)
    go_ret
    exact ⟨rfl, rfl⟩

def bDown : ByteArray := ⟨#[65, 83, 80, 45, 68, 79, 87, 78]⟩
def bInactive : ByteArray := ⟨#[65, 83, 80, 45, 73, 78, 65, 67, 84, 73, 86, 69]⟩
def bActive : ByteArray := ⟨#[65, 83, 80, 45, 65, 67, 84, 73, 86, 69]⟩
def aspB (k : Nat) : ByteArray := if k % 3 = 0 then bDown else if k % 3 = 1 then bInactive else bActive
theorem aspS_eq (k : Nat) : aspS k = .string (aspB k) := by unfold aspS aspB; split <;> (try split) <;> rfl
theorem aspB_in (k : Nat) : ((aspB k).toList == bInactive.toList) = decide (k % 3 = 1) := by
  unfold aspB
  rcases (by omega : k % 3 = 0 ∨ k % 3 = 1 ∨ k % 3 = 2) with h | h | h <;> rw [h] <;> kernel_rfl
theorem aspB_act (k : Nat) : ((aspB k).toList == bActive.toList) = decide (k % 3 = 2) := by
  unfold aspB
  rcases (by omega : k % 3 = 0 ∨ k % 3 = 1 ∨ k % 3 = 2) with h | h | h <;> rw [h] <;> kernel_rfl

set_option maxRecDepth 100000 in
set_option maxHeartbeats 1000000 in
theorem contains1 (b k : Nat) (w : World) (h0 : w.cell? ⟨b, 0, none⟩ = some (.string bInactive)) : Calls Ybad.prog 16 #[.slice (some ⟨b, 0, none⟩) 1 1, .string (aspB k)] w fun e w' => e = .returned (.bool (decide (k % 3 = 1))) ∧ w' = w := by
  have hi := index1 b bInactive (aspB k) w h0
  rw [aspB_in] at hi
  generalize aspB k = x at *
  cases hd : decide (k % 3 = 1) <;> rw [hd] at hi
  all_goals
    simp only [if_true, if_false, Bool.false_eq_true] at hi
    have HI : Hid (Calls Ybad.prog 23 _ w _) := hi
    clear hi hd h0
    go_enter Ybad.func16, Ybad.ntmps16
    go_wp2_with fail
    refine HI.out.mono ?_
    rintro e w1 ⟨rfl, rfl⟩
    go_wp2_with fail
    go_ret
    exact ⟨rfl, rfl⟩

set_option maxRecDepth 100000 in
set_option maxHeartbeats 1000000 in
theorem contains2 (b k : Nat) (w : World) (h0 : w.cell? ⟨b, 0, none⟩ = some (.string bInactive)) (h1 : w.cell? ⟨b, 1, none⟩ = some (.string bActive)) : Calls Ybad.prog 16 #[.slice (some ⟨b, 0, none⟩) 2 2, .string (aspB k)] w fun e w' => e = .returned (.bool (decide (k % 3 ≠ 0))) ∧ w' = w := by
  have hi := index2 b bInactive bActive (aspB k) w h0 h1
  rw [aspB_in, aspB_act] at hi
  generalize aspB k = x at *
  have hi2 : Calls Ybad.prog 23 #[.slice (some ⟨b, 0, none⟩) 2 2, .string x] w fun e w' => e = .returned (.int .i64 (if k % 3 = 0 then -1 else if k % 3 = 1 then 0 else 1)) ∧ w' = w := by
    refine hi.mono ?_
    rintro e w1 ⟨rfl, rfl⟩
    refine ⟨?_, rfl⟩
    rcases (by omega : k % 3 = 0 ∨ k % 3 = 1 ∨ k % 3 = 2) with h | h | h <;> simp [h]
  rcases (by omega : k % 3 = 0 ∨ k % 3 = 1 ∨ k % 3 = 2) with h | h | h <;> rw [h] at hi2 ⊢
  all_goals
    have HI : Hid (Calls Ybad.prog 23 _ w _) := hi2
    clear hi hi2 h h0 h1
    go_enter Ybad.func16, Ybad.ntmps16
    go_wp2_with fail
    refine HI.out.mono ?_
    rintro e w1 ⟨rfl, rfl⟩
    go_wp2_with fail
    go_ret
    exact ⟨rfl, rfl⟩
end Go.Proofs.YbulkbndkDoor.Pr
