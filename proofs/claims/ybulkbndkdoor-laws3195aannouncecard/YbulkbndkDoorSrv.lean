/-
  The application servers in memory; what is fed to the outbox; the look-up of an ASP's state.
-/
import Derived.Test.YbulkbndkDoorAdd
import Derived.LaidEql
namespace Go.Proofs.YbulkbndkDoor.Pr
set_option linter.unusedSimpArgs false
open Go.ChangeShapes Go.WideShapes Go.ChangeAt Go.RowKit

def feed (flt : Nat → Bool) (st rc : Nat) (ss : Nat → Nat) (S : SS) (ms : List Nat) : SS := ms.foldl (fun S m => if flt (ss (m % 4)) then S.push (m % 4) (st, rc) else S) S
def SS.le (S : SS) (n : Nat) : Prop := (∀ j, (S.ex j).length ≤ n) ∧ S.od.length ≤ n
theorem SS.le.push {S : SS} {n : Nat} (h : S.le n) (j : Nat) (e : Nat × Nat) : (S.push j e).le (n + 1) := by
  refine ⟨fun i => ?_, ?_⟩
  · unfold SS.push
    by_cases c : i = j
    · subst c
      have := h.1 i
      simp; omega
    · have := h.1 i
      simp [c]; omega
  · unfold SS.push
    have := h.2
    by_cases c : S.ex j = []
    · simp [c]; omega
    · simp [c]; omega
theorem SS.le.mono {S : SS} {n m : Nat} (h : S.le n) (hm : n ≤ m) : S.le m := ⟨fun j => Nat.le_trans (h.1 j) hm, Nat.le_trans h.2 hm⟩
theorem feed_snoc (flt : Nat → Bool) (st rc : Nat) (ss : Nat → Nat) (S : SS) (ms : List Nat) (m : Nat) : feed flt st rc ss S (ms ++ [m]) = if flt (ss (m % 4)) then (feed flt st rc ss S ms).push (m % 4) (st, rc) else feed flt st rc ss S ms := by
  unfold feed
  rw [List.foldl_append]
  rfl
theorem feed_le {flt : Nat → Bool} {st rc : Nat} {ss : Nat → Nat} : ∀ (ms : List Nat) {S : SS} {n : Nat}, S.le n → (feed flt st rc ss S ms).le (n + ms.length)
  | [], _, _, h => by simpa [feed] using h
  | m :: ms, S, n, h => by
    have h1 : (if flt (ss (m % 4)) then S.push (m % 4) (st, rc) else S).le (n + 1) := by
      split
      · exact h.push _ _
      · exact h.mono (by omega)
    have := feed_le (flt := flt) (st := st) (rc := rc) (ss := ss) ms h1
    unfold feed at this ⊢
    rw [List.foldl_cons]
    refine this.mono ?_
    simp; omega

structure Sv where
  rc : Nat
  st : Nat
  ms : List Nat
  ss : Nat → Nat
structure Sv.Ok (s : Sv) : Prop where
  rc : s.rc < 4294967296
  st : s.st < 256
  ms : ∀ m ∈ s.ms, m < 256
  len : s.ms.length ≤ 256
  ss : ∀ j, s.ss j < 256

theorem size68 : (Ybad.prog.info? 68).map (·.size) = some 5 := by kernel_rfl
def Blk (w : World) (b : Nat) : Prop := ∃ c t, w.heap[b]? = some (.cells c t (0, 0))
theorem eq_ptr0 (d a b : Nat) (w : World) (ha : Blk w a) (hb : Blk w b) : (Op.equalIn (d + 1) 32 (ptr a) (ptr b)).run Ybad.prog w = .ok (decide (a = b)) w := by
  obtain ⟨i, hi, hs⟩ := Option.map_eq_some_iff.1 size68
  obtain ⟨ca, ta, ha⟩ := ha
  obtain ⟨cb, tb, hb⟩ := hb
  by_cases h : a = b
  · subst h
    simp [Op.equalIn, ptr, run_underlying Ybad.underlying32, sizeOf, typeInfo, hi, hs, run_sameAddr_same]
  · have := run_sameAddr_other (P := Ybad.prog) (w := w) (a := ⟨a, 0, none⟩) (b := ⟨b, 0, none⟩) (by simp [h]) ha hb
    simp [Op.equalIn, ptr, run_underlying Ybad.underlying32, sizeOf, typeInfo, hi, hs, this, h]
theorem eq_ptr (a b : Nat) (w : World) (ha : Blk w a) (hb : Blk w b) : (Op.equal 32 (ptr a) (ptr b)).run Ybad.prog w = .ok (decide (a = b)) w := eq_ptr0 9999 a b w ha hb
theorem chk_ptr0 (em : Bool) (d a : Nat) (w : World) : (Instr.checkKey em (d + 1) 32 (ptr a)).run Ybad.prog w = .ok () w := by
  simp [Instr.checkKey, ptr, run_underlying Ybad.underlying32]
theorem chk_ptr (em : Bool) (a : Nat) (w : World) : (Instr.checkKey em 10000 32 (ptr a)).run Ybad.prog w = .ok () w := chk_ptr0 em 9999 a w

def aspb (B j : Nat) : Nat := B + 4 + 2 * j
def ent (B : Nat) (ss : Nat → Nat) (j : Nat) : MapEntry := { key := ptr (aspb B j), val := .string (aspB (ss j)), born := j }
def mapEs (B : Nat) (ss : Nat → Nat) (k : Nat) : Array MapEntry := ((List.range k).map (ent B ss)).toArray
theorem mapEs_list (B : Nat) (ss : Nat → Nat) (k : Nat) : (mapEs B ss k).toList = (List.range k).map (ent B ss) := rfl

theorem ask_asp (B : Nat) (ss : Nat → Nat) (w : World) (hb : ∀ j, j < 4 → Blk w (aspb B j)) (j : Nat) (hj : j < 4) : ∀ (l : List Nat) (i : Nat), (∀ k ∈ l, k < 4) → (Instr.findAsking 32 (ptr (aspb B j)) (l.map (ent B ss)) i).run Ybad.prog w = .ok ((l.findIdx? (· == j)).map fun n => (i + n, .string (aspB (ss j)))) w
  | [], i, _ => by simp [Instr.findAsking]
  | k :: l, i, hl => by
    have hk : k < 4 := hl k (by simp)
    have he := eq_ptr (aspb B j) (aspb B k) w (hb j hj) (hb k hk)
    have ih := ask_asp B ss w hb j hj l (i + 1) (fun x hx => hl x (List.mem_cons_of_mem _ hx))
    rw [List.map_cons]
    by_cases e : k = j
    · subst e
      have : (ent B ss k).key = ptr (aspb B k) := rfl
      simp [Instr.findAsking, this, he, Result.andThen, List.findIdx?_cons]
      rfl
    · have h1 : (ent B ss k).key = ptr (aspb B k) := rfl
      have h2 : aspb B j ≠ aspb B k := by unfold aspb; omega
      simp [Instr.findAsking, h1, he, h2, Result.andThen, List.findIdx?_cons, e, ih]
      exact congrArg (fun g => Option.map g (List.findIdx? (fun x => x == j) l)) (funext fun n => by simp only [Function.comp]; rw [Nat.add_assoc, Nat.add_comm 1 n])

theorem now_none (a : Nat) (B : Nat) (ss : Nat → Nat) (k : Nat) : ∀ l : List Nat, Instr.findNow (.pointer 68) (ptr a) ((k :: l).map (ent B ss)) 0 = none := fun l => by
  simp [Instr.findNow, Instr.sameNow, ptr, ent]

theorem find_asp (B : Nat) (ss : Nat → Nat) (w : World) (hb : ∀ j, j < 4 → Blk w (aspb B j)) (j : Nat) (hj : j < 4) (l : List Nat) (hl : ∀ k ∈ l, k < 4) : (Instr.findKey 32 (ptr (aspb B j)) (l.map (ent B ss))).run Ybad.prog w = .ok ((l.findIdx? (· == j)).map fun n => (n, .string (aspB (ss j)))) w := by
  cases l with
  | nil => simp [Instr.findKey, run_underlying Ybad.underlying32, Instr.findNow]
  | cons k l =>
    have := ask_asp B ss w hb j hj (k :: l) 0 hl
    simp only [Nat.zero_add] at this
    unfold Instr.findKey
    rw [Sem.run_bind, run_underlying Ybad.underlying32]
    simp only [Result.andThen]
    rw [now_none]
    exact this

theorem look_asp (B M : Nat) (ss : Nat → Nat) (w : World) (hb : ∀ j, j < 4 → Blk w (aspb B j)) (hm : w.heap[M]? = some (.map (mapEs B ss 4) 4)) (j : Nat) (hj : j < 4) :
    (Instr.lookup 79 (.map (some M)) (ptr (aspb B j)) false).run Ybad.prog w = .ok (.string (aspB (ss j))) w := by
  have h1 := find_asp B ss w hb j hj (List.range 4) (fun k hk => by simpa using hk)
  have h2 : (List.range 4).findIdx? (· == j) = some j := by
    have : j = 0 ∨ j = 1 ∨ j = 2 ∨ j = 3 := by omega
    rcases this with rfl | rfl | rfl | rfl <;> rfl
  rw [h2] at h1
  simp [Instr.lookup, run_underlying Ybad.underlying79, MapKept.run_getObj_map hm, chk_ptr, mapEs_list, h1, Result.andThen]

theorem upd_asp (B M : Nat) (ss : Nat → Nat) (w : World) (hb : ∀ j, j < 4 → Blk w (aspb B j)) (k : Nat) (hk : k < 4) (hm : w.heap[M]? = some (.map (mapEs B ss k) k)) :
    (Instr.mapUpdate 79 (.map (some M)) (ptr (aspb B k)) (.string (aspB (ss k)))).run Ybad.prog w = .ok () { w with heap := w.heap.setIfInBounds M (.map (mapEs B ss (k + 1)) (k + 1)) } := by
  have h1 := find_asp B ss w hb k hk (List.range k) (fun i hi => by simp at hi; omega)
  have h2 : (List.range k).findIdx? (· == k) = none := by
    rw [List.findIdx?_eq_none_iff]
    intro x hx
    simp at hx ⊢
    omega
  rw [h2] at h1
  have h3 : (mapEs B ss k).push (ent B ss k) = mapEs B ss (k + 1) := by
    unfold mapEs
    simp [List.range_succ]
  have h4 : ({ key := ptr (aspb B k), val := .string (aspB (ss k)), born := k } : MapEntry) = ent B ss k := rfl
  simp [Instr.mapUpdate, run_underlying Ybad.underlying79, MapKept.run_getObj_map hm, chk_ptr, mapEs_list, h1, Result.andThen, MapKept.run_setObj_map _ hm, h3, h4]
structure AsOk (B : Nat) (s : Sv) (A : Nat) (f : Nat → Value) (M : Nat) (w : World) : Prop where
  row : w.rowIs A 86 35 f
  rc : f 1 = .int .u32 (s.rc : Int)
  st : f 7 = asS s.st
  mp : f 9 = .map (some M)
  ms : w.ownsRow B 32 1 (f 8) s.ms.length (s.ms.map fun m => ptr (aspb B (m % 4)))
  map : w.heap[M]? = some (.map (mapEs B s.ss 4) 4)
theorem AsOk.fr {B : Nat} {s : Sv} {A M B' : Nat} {f : Nat → Value} {w w' : World} {T : List TypeId} (h : AsOk B s A f M w) (hF : Fr B' T w w') (h1 : 86 ∉ T) (h2 : 32 ∉ T) : AsOk B s A f M w' :=
  ⟨hF.row h.row h1, h.rc, h.st, h.mp, hF.owns h.ms h2, hF.map h.map⟩

def Asps (B : Nat) (w : World) : Prop := ∀ j, j < 4 → ∃ f, w.rowIs (aspb B j) 68 5 f ∧ f 4 = ptr (asb B j)
theorem Asps.blk {B : Nat} {w : World} (h : Asps B w) : ∀ j, j < 4 → Blk w (aspb B j) := fun j hj => by
  obtain ⟨f, a, _⟩ := h j hj
  obtain ⟨c, hc⟩ := row_tag a
  exact ⟨c, _, hc⟩
theorem Asps.fr {B B' : Nat} {w w' : World} {T : List TypeId} (h : Asps B w) (hF : Fr B' T w w') (h1 : 68 ∉ T) : Asps B w' := fun j hj => by
  obtain ⟨f, a, b⟩ := h j hj
  exact ⟨f, hF.row a h1, b⟩

end Go.Proofs.YbulkbndkDoor.Pr
