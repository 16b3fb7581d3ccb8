/-
  The Notify messages: uint32Parameter, RoutingContext, notify.
-/
import Derived.Test.YbulkbndkDoorMsg
namespace Go.Proofs.YbulkbndkDoor.Pr
set_option linter.unusedSimpArgs false
open Go.ChangeShapes Go.WideShapes Go.ChangeAt Go.RowKit

theorem row_new {w : World} {cs : Array Value} {t : TypeId} {f : Nat → Value} (n : Nat) (hn : cs.size = n) (h : ∀ i, i < n → cs[i]? = some (f i)) : (w.alloc (.cells cs t)).rowIs w.heap.size t n f := by
  subst hn
  exact World.rowIs_alloc w cs t f h

def res0 (i : Nat) : Value := if i = 0 then .int .u16 0 else .slice none 0 0
theorem res0_new (w : World) : (w.alloc (Obj.cells #[Value.int IntKind.u16 0, Value.slice none 0 0] 152)).rowIs w.heap.size 152 2 res0 :=
  row_new 2 rfl fun i hi => by
    have : i = 0 ∨ i = 1 := by omega
    rcases this with rfl | rfl <;> rfl

set_option maxRecDepth 100000 in
set_option maxHeartbeats 1000000 in
theorem param_any (t x : Nat) (hx : x < 4294967296) (w : World) : Calls Ybad.prog 18 #[.int .u16 (t : Int), .int .u32 (x : Int)] w fun e w' =>
    ∃ g c, e = .returned (.agg #[.int .u16 (t : Int), .slice (some ⟨g, 0, none⟩) 4 c]) ∧ w'.ownsRow 0 5 1 (.slice (some ⟨g, 0, none⟩) 4 c) 4 (bytesOf x) ∧ Fr 0 [] w w' := by
  go_enter Ybad.func18, Ybad.ntmps18
  go_wp2_with fail
  refine (append32_any x hx (.slice none 0 0) _ (World.ownsRow_nil _ _ _ _)).mono ?_
  rintro e w1 ⟨g, c, rfl, ho, w0, hF0, hg⟩
  have hF : Fr 0 [] w w1 := (((Fr.refl 0 [] w).alloc _).trans hF0).grown hg (fun k hk => by cases hk)
  have hr0 := hF0.row (res0_new w) (by simp)
  have hr : w1.rowIs w.heap.size 152 2 res0 := hr0.of_block (hg.block _ hr0.lt (by simp [Value.ownBlock]))
  have c0 := hr.cell (i := 0) (by omega)
  have c1 := hr.cell (i := 1) (by omega)
  have f0 := hr.frozen 0
  have f1 := hr.frozen 1
  have hne : w.heap.size ≠ g := by
    obtain ⟨c1, h1⟩ := row_tag hr
    obtain ⟨_, c2, h2⟩ := ownsRow_tag ho g rfl
    exact tag_ne h1 h2 (by decide)
  have s0 : (w1.setCell ⟨w.heap.size, 0, none⟩ (.int .u16 (t : Int))).cell? ⟨w.heap.size, 0, none⟩ = some (.int .u16 (t : Int)) := by simpa using (hr.set 0 (.int .u16 (t : Int))).cell (i := 0) (by omega)
  have s1 : ((w1.setCell ⟨w.heap.size, 0, none⟩ (.int .u16 (t : Int))).setCell ⟨w.heap.size, 1, none⟩ (.slice (some ⟨g, 0, none⟩) 4 c)).cell? ⟨w.heap.size, 1, none⟩ = some (.slice (some ⟨g, 0, none⟩) 4 c) := by simpa using ((hr.set 0 (.int .u16 (t : Int))).set 1 (.slice (some ⟨g, 0, none⟩) 4 c)).cell (i := 1) (by omega)
  have HO : Hid (w1.ownsRow 0 5 1 (.slice (some ⟨g, 0, none⟩) 4 c) 4 (bytesOf x)) := ho
  have HF : Hid (Fr 0 [] w w1) := hF
  clear hF hF0 hg ho hr hr0
  go_wp2_with fail
  refine bodyPost_ret (v := .agg #[.int .u16 (t : Int), .slice (some ⟨g, 0, none⟩) 4 c]) (by simp [results, Ybad.results18, go_sem, s0, s1]; try rfl) rfl ?_
  refine ⟨g, c, rfl, ?_, ?_⟩
  · refine ownsRow_of_block HO.out fun k hk => ?_
    obtain rfl : g = k := by simpa [Value.ownBlock] using hk
    rw [Below.heap_setCell _ _ _ _ (by simpa using Ne.symm hne), Below.heap_setCell _ _ _ _ (by simpa using Ne.symm hne)]
  · exact (HF.out.setCell (Or.inl (Nat.le_refl _)) _).setCell (Or.inl (Nat.le_refl _)) _

def mk4 : Array Value := madeCells #[.int .u8 0] 4
theorem mk4_size : mk4.size = 4 := by unfold mk4; rw [size_madeCells]

set_option maxRecDepth 100000 in
set_option maxHeartbeats 1000000 in
theorem rctx_any (b x : Nat) (hx : x < 4294967296) (w : World) (hb : w.cell? ⟨b, 0, none⟩ = some (.int .u32 (x : Int))) : Calls Ybad.prog 19 #[.slice (some ⟨b, 0, none⟩) 1 1] w fun e w' =>
    ∃ g c, e = .returned (.agg #[.int .u16 6, .slice (some ⟨g, 0, none⟩) 4 c]) ∧ w'.ownsRow 0 5 1 (.slice (some ⟨g, 0, none⟩) 4 c) 4 (bytesOf x) ∧ Fr 0 [] w w' := by
  obtain ⟨i0, hi0, hz0, hz1, hz2⟩ := info_parts info5
  have hmk : ∀ w, (Instr.makeSlice 23 (.int .i64 0) (.int .i64 4)).run Ybad.prog w = .ok (.slice (some ⟨w.heap.size, 0, none⟩) 0 4) (w.alloc (.cells mk4 5)) := fun w => by
    have h := run_makeSlice (P := Ybad.prog) w 23 5 i0 _ Ybad.underlying23 hi0 hz0 .i64 .i64 0 4 (by omega) (by omega) (by rw [hz1]; decide) (by rw [hz2]; decide) (by omega)
    rw [hz1] at h
    exact h
  have lb : b < w.heap.size := by have := World.block_lt_of_cell? w _ hb; simpa using this
  go_enter Ybad.func19, Ybad.ntmps19
  go_wp2_with fail
  refine wp_loop_rounds 2 ?_
  rw [rounds_succ]
  go_wp2_with fail
  have hv : ((w.alloc (Obj.cells #[Value.int IntKind.u16 0, Value.slice none 0 0] 152)).alloc (Obj.cells mk4 5)).ownsRow 0 5 1 (.slice (some ⟨w.heap.size + 1, 0, none⟩) 0 4) 0 [] :=
    ⟨rfl, Or.inr ⟨w.heap.size + 1, 4, mk4, rfl, Nat.zero_le _, heap_new2 _ _ _, by omega, by unfold maxLen; omega, mk4_size, by simp⟩⟩
  refine (append32_any x hx _ _ hv).mono ?_
  rintro e w1 ⟨g, c, rfl, ho, w0, hF0, hg⟩
  have hF : Fr 0 [] w w1 := ((((Fr.refl 0 [] w).alloc _).alloc _).trans hF0).grown hg (fun k hk => Or.inl (by simp [Value.ownBlock] at hk; omega))
  have hr0 := hF0.row ((res0_new w).alloc _) (by simp)
  have hr : w1.rowIs w.heap.size 152 2 res0 := hr0.of_block (hg.block _ hr0.lt (by simp [Value.ownBlock]))
  have c0 := hr.cell (i := 0) (by omega)
  have c1 := hr.cell (i := 1) (by omega)
  have f0 := hr.frozen 0
  have f1 := hr.frozen 1
  have hne : w.heap.size ≠ g := by
    obtain ⟨c1, h1⟩ := row_tag hr
    obtain ⟨_, c2, h2⟩ := ownsRow_tag ho g rfl
    exact tag_ne h1 h2 (by decide)
  have s0 : (w1.setCell ⟨w.heap.size, 0, none⟩ (.int .u16 6)).cell? ⟨w.heap.size, 0, none⟩ = some (.int .u16 6) := by simpa using (hr.set 0 (.int .u16 6)).cell (i := 0) (by omega)
  have s1 : ((w1.setCell ⟨w.heap.size, 0, none⟩ (.int .u16 6)).setCell ⟨w.heap.size, 1, none⟩ (.slice (some ⟨g, 0, none⟩) 4 c)).cell? ⟨w.heap.size, 1, none⟩ = some (.slice (some ⟨g, 0, none⟩) 4 c) := by simpa using ((hr.set 0 (.int .u16 6)).set 1 (.slice (some ⟨g, 0, none⟩) 4 c)).cell (i := 1) (by omega)
  have HO : Hid (w1.ownsRow 0 5 1 (.slice (some ⟨g, 0, none⟩) 4 c) 4 (bytesOf x)) := ho
  have HF : Hid (Fr 0 [] w w1) := hF
  clear hF hF0 hg ho hr hr0 hv
  go_wp2_with fail
  rw [rounds_succ]
  go_wp2_with fail
  refine bodyPost_ret (v := .agg #[.int .u16 6, .slice (some ⟨g, 0, none⟩) 4 c]) (by simp [results, Ybad.results19, go_sem, s0, s1]; try rfl) rfl ?_
  refine ⟨g, c, rfl, ?_, ?_⟩
  · refine ownsRow_of_block HO.out fun k hk => ?_
    obtain rfl : g = k := by simpa [Value.ownBlock] using hk
    rw [Below.heap_setCell _ _ _ _ (by simpa using Ne.symm hne), Below.heap_setCell _ _ _ _ (by simpa using Ne.symm hne)]
  · exact (HF.out.setCell (Or.inl (Nat.le_refl _)) _).setCell (Or.inl (Nat.le_refl _)) _

/-- A NOTIFY IN MEMORY. -/
def msgCells (pv : Value) (i : Nat) : Value := if i = 0 then .int .u8 0 else if i = 1 then .int .u8 1 else pv
def IsMsg (w : World) (p st rc : Nat) : Prop :=
  ∃ pb pc g1 c1 g2 c2, w.rowIs p 148 3 (msgCells (.slice (some ⟨pb, 0, none⟩) 2 pc)) ∧ w.ownsRow 0 152 2 (.slice (some ⟨pb, 0, none⟩) 2 pc) 2 [.int .u16 13, .slice (some ⟨g1, 0, none⟩) 4 c1, .int .u16 6, .slice (some ⟨g2, 0, none⟩) 4 c2] ∧
    w.ownsRow 0 5 1 (.slice (some ⟨g1, 0, none⟩) 4 c1) 4 (bytesOf st) ∧ w.ownsRow 0 5 1 (.slice (some ⟨g2, 0, none⟩) 4 c2) 4 (bytesOf rc)
theorem IsMsg.fr {B : Nat} {T : List TypeId} {w w' : World} {p st rc : Nat} (h : IsMsg w p st rc) (hF : Fr B T w w') (h1 : 148 ∉ T) (h2 : 152 ∉ T) (h3 : 5 ∉ T) : IsMsg w' p st rc := by
  obtain ⟨pb, pc, g1, c1, g2, c2, a, b, c, d⟩ := h
  exact ⟨pb, pc, g1, c1, g2, c2, hF.row a h1, hF.owns b h2, hF.owns c h3, hF.owns d h3⟩

set_option maxRecDepth 100000 in
set_option maxHeartbeats 1000000 in
theorem notify_any (A st rc : Nat) (hst : st < 4294967296) (hrc : rc < 4294967296) (w : World) (hA : w.cell? ⟨A, 1, none⟩ = some (.int .u32 (rc : Int))) : Calls Ybad.prog 11 #[.int .u32 (st : Int), .pointer (some ⟨A, 0, none⟩), .slice none 0 0] w fun e w' =>
    ∃ p, e = .returned (.pointer (some ⟨p, 0, none⟩)) ∧ IsMsg w' p st rc ∧ Fr 0 [] w w' := by
  obtain ⟨i0, hi0, hz0, hz1, hz2⟩ := info_parts info152
  have hAl : A < w.heap.size := by have := World.block_lt_of_cell? w _ hA; simpa using this
  go_enter Ybad.func11, Ybad.ntmps11
  go_wp2_with fail
  refine (param_any 13 st hst w).mono ?_
  rintro e w1 ⟨g1, c1, rfl, ho1, hF1⟩
  have hA1 : w1.cell? ⟨A, 1, none⟩ = some (.int .u32 (rc : Int)) := (hF1.up (B' := 0) (Nat.le_refl _)).keepCell hA (by simp)
  have hAl1 : A < w1.heap.size := by have := World.block_lt_of_cell? w1 _ hA1; simpa using this
  have HO1 : Hid (w1.ownsRow 0 5 1 (.slice (some ⟨g1, 0, none⟩) 4 c1) 4 (bytesOf st)) := ho1
  have HF1 : Hid (Fr 0 [] w w1) := hF1
  clear hF1 ho1
  go_wp2_with fail
  refine (rctx_any (w1.heap.size + 1) rc hrc _ (by simp)).mono ?_
  rintro e w2 ⟨g2, c2, rfl, ho2, hF2⟩
  have hall : w2.ownsRow 0 152 2 (.slice (some ⟨w1.heap.size, 0, none⟩) 1 1) 1 [.int .u16 13, .slice (some ⟨g1, 0, none⟩) 4 c1] := by
    refine hF2.owns (World.ownsRow.alloc ⟨rfl, Or.inr ⟨w1.heap.size, 1, _, rfl, Nat.zero_le _, heap_alloc_new w1 _, by omega, by unfold maxLen; omega, rfl, rfl⟩⟩ _) (by simp)
  have HO2 : Hid (w2.ownsRow 0 5 1 (.slice (some ⟨g2, 0, none⟩) 4 c2) 4 (bytesOf rc)) := ho2
  have HO1' : Hid (w2.ownsRow 0 5 1 (.slice (some ⟨g1, 0, none⟩) 4 c1) 4 (bytesOf st)) := hF2.owns ((HO1.out.alloc _).alloc _) (by simp)
  have HF2 : Hid (Fr 0 [] w w2) := ((HF1.out.alloc _).alloc _).trans hF2
  have HW : Hid (w.heap.size ≤ w1.heap.size) := HF1.out.size
  have HA : Hid (w2.ownsRow 0 152 2 (.slice (some ⟨w1.heap.size, 0, none⟩) 1 1) 1 [.int .u16 13, .slice (some ⟨g1, 0, none⟩) 4 c1]) := hall
  clear ho2 hF2 hall HO1 HF1
  go_wp2_with (at_builtin; go_loud (refine wpList_append_lies _ rfl (.tmp 14) (.tmp 22) 146 rfl 0 152 i0 _ 2 32 Ybad.underlying146 hi0 hz0 hz1 hz2 rfl (by omega) (.slice (some ⟨w1.heap.size, 0, none⟩) 1 1) 1 _ rfl (HA.out.alloc _) ⟨w2.heap.size, 0, none⟩ 1 1 [.int .u16 6, .slice (some ⟨g2, 0, none⟩) 4 c2] (by rfl) (by rfl) (news1 w2 #[.int .u16 6, .slice (some ⟨g2, 0, none⟩) 4 c2] 152) (by intro q hq; simp at hq; rcases hq with rfl | rfl <;> rfl) (by omega) (by unfold maxLen; omega) (by omega) (by omega) _ rfl ?_; intro gg cap w3 ho hgrow hat hlt; have HO : Hid (w3.ownsRow 0 152 2 (.slice (some ⟨gg, 0, none⟩) (1 + 1) cap) (1 + 1) ([.int .u16 13, .slice (some ⟨g1, 0, none⟩) 4 c1] ++ [.int .u16 6, .slice (some ⟨g2, 0, none⟩) 4 c2])) := ho; have HG : Hid ((w2.alloc (Obj.cells #[.int .u16 6, .slice (some ⟨g2, 0, none⟩) 4 c2] 152)).grownBy w3 (some w1.heap.size)) := hgrow; clear ho hgrow hat hlt))
  go_returns
  have hF3 : Fr 0 [] w w3 := (HF2.out.alloc _).grown HG.out (fun k hk => Or.inl (by have := HW.out; simp at hk; omega))
  have far : ∀ {g c x}, w2.ownsRow 0 5 1 (.slice (some ⟨g, 0, none⟩) 4 c) 4 (bytesOf x) → w3.ownsRow 0 5 1 (.slice (some ⟨g, 0, none⟩) 4 c) 4 (bytesOf x) := fun {g c x} h => by
    refine ownsRow_of_block (h.alloc _) fun k hk => HG.out.block k (ownsRow_lt (h.alloc _) k hk) fun e => ?_
    obtain ⟨_, c3, h3⟩ := ownsRow_tag h k hk
    obtain ⟨_, c4, h4⟩ := ownsRow_tag HA.out w1.heap.size rfl
    exact tag_ne h3 h4 (by decide) (by simpa using e)
  refine ⟨_, rfl, ⟨gg, cap, g1, c1, g2, c2, row_new 3 rfl fun i hi => ?_, HO.out.alloc _, (far HO1'.out).alloc _, (far HO2.out).alloc _⟩, hF3.alloc _⟩
  have : i = 0 ∨ i = 1 ∨ i = 2 := by omega
  rcases this with rfl | rfl | rfl <;> rfl
end Go.Proofs.YbulkbndkDoor.Pr
