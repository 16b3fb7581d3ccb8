/-
  'zzs3191baddarcs' (function 6): the graph and the two logs in memory; what a push does to them.
-/
import Derived.Test.YbulkbnbgDoorApp
namespace Go.Proofs.YbulkbnbgDoor.Pr
set_option linter.unusedSimpArgs false
open Go.ChangeShapes Go.WideShapes Go.ChangeAt Go.RowKit

theorem lit63 (b : Act) (g : Nat → Value) (hg : ∀ t, b.tmps[t]?.getD undef = g t) (hN : b.tmps.size = 63) (hd : b.defers = []) : b = { tmps := (g 0 :: g 1 :: g 2 :: g 3 :: g 4 :: g 5 :: g 6 :: g 7 :: g 8 :: g 9 :: g 10 :: g 11 :: g 12 :: g 13 :: g 14 :: g 15 :: g 16 :: g 17 :: g 18 :: g 19 :: g 20 :: g 21 :: g 22 :: g 23 :: g 24 :: g 25 :: g 26 :: g 27 :: g 28 :: g 29 :: g 30 :: g 31 :: g 32 :: g 33 :: g 34 :: g 35 :: g 36 :: g 37 :: g 38 :: g 39 :: g 40 :: g 41 :: g 42 :: g 43 :: g 44 :: g 45 :: g 46 :: g 47 :: g 48 :: g 49 :: g 50 :: g 51 :: g 52 :: g 53 :: g 54 :: g 55 :: g 56 :: g 57 :: g 58 :: g 59 :: g 60 :: g 61 :: g 62 :: []).toArray, defers := [] } := by
  obtain ⟨tm, df⟩ := b
  obtain rfl : df = [] := hd
  obtain rfl : (fun t => tm[t]?.getD undef) = g := funext hg
  exact congrArg (fun x => Act.mk x []) (tmps_eq hN)

def ints (xs : List Nat) : List Value := xs.map fun (x : Nat) => Value.int .i64 (x : Int)
theorem ints_len (xs : List Nat) : (ints xs).length = xs.length := by simp [ints]
theorem ints_append (xs : List Nat) (u : Nat) : ints (xs ++ [u]) = ints xs ++ [Value.int .i64 (u : Int)] := by simp [ints]
theorem trailCells_append (xs : List Nat) (u : Nat) : trailCells (xs ++ [u]) = trailCells xs ++ [Value.int .i32 (u : Int)] := by simp [trailCells]

theorem Gr.push {n : Nat} {adj : Nat → List Nat} {gB S : Nat} {sv : Nat → Value} {w w1 : World} (h : Gr n adj gB S sv w) {u v gg cap : Nat} (hu : u < n) (hv : v < n) (huv : u ≠ v) (hlen : (adj u).length + 1 ≤ 4096)
    (ho : w1.ownsRow 0 21 1 (.slice (some ⟨gg, 0, none⟩) ((adj u).length + 1) cap) ((adj u).length + 1) (trailCells (adj u) ++ [Value.int .i32 (v : Int)])) (hat : (sv u).ownBlock = some gg ∨ w.heap.size ≤ gg)
    (hrow : w1.rowIs S 38 n (fun j => if j = u then .slice (some ⟨gg, 0, none⟩) ((adj u).length + 1) cap else sv j)) (hK : Keeps (fun j => j = S ∨ (sv u).ownBlock = some j) w w1) :
    Gr n (fun j => if j = u then adj u ++ [v] else adj j) gB S (fun j => if j = u then .slice (some ⟨gg, 0, none⟩) ((adj u).length + 1) cap else sv j) w1 := by
  have hgl : gB < w.heap.size := h.lt_size gB (Or.inl rfl)
  have hSl : S < w.heap.size := h.lt_size S (Or.inr (Or.inl rfl))
  have hgne : ∀ j k, j < n → j ≠ u → (sv j).ownBlock = some k → k ≠ gg := by
    intro j k hj hju hk e
    subst e
    rcases hat with h1 | h1
    · exact hju ((h.sep u k hu h1).2.2 j hj hk)
    · have := h.lt_size k (Or.inr (Or.inr ⟨j, hj, hk⟩)); omega
  refine ⟨?_, hrow, ?_, ?_, ?_, h.ne, ?_⟩
  · rw [World.cell?_of_block (hK.block gB hgl (by rintro (e | e); exact h.ne e; exact (h.sep u gB hu e).1 rfl))]; exact h.g
  · intro j hj
    by_cases e : j = u
    · subst e
      simp only [if_true, List.length_append, List.length_singleton, trailCells_append]
      exact ho
    · simp only [if_neg e]
      refine ownsRow_of_block (h.sub j hj) fun k hk => hK.block k (h.lt_size k (Or.inr (Or.inr ⟨j, hj, hk⟩))) ?_
      rintro (e1 | e1)
      · exact (h.sep j k hj hk).2.1 e1
      · exact e ((h.sep u k hu e1).2.2 j hj hk)
  · intro j x hj hx
    by_cases e : j = u
    · subst e
      simp only [if_true, List.mem_append, List.mem_singleton] at hx
      rcases hx with hx | rfl
      · exact h.lt j x hj hx
      · exact ⟨hv, huv⟩
    · simp only [if_neg e] at hx
      exact h.lt j x hj hx
  · intro j hj
    by_cases e : j = u
    · subst e; simpa using hlen
    · simp only [if_neg e]; exact h.len j hj
  · intro j k hj hk
    by_cases e : j = u
    · subst e
      simp only [if_true] at hk
      obtain rfl : gg = k := by simpa [Value.ownBlock] using hk
      refine ⟨?_, ?_, fun u' hu' hk' => ?_⟩
      · rcases hat with h1 | h1
        · exact (h.sep j gg hj h1).1
        · omega
      · rcases hat with h1 | h1
        · exact (h.sep j gg hj h1).2.1
        · omega
      · by_cases e2 : u' = j
        · exact e2
        · simp only [if_neg e2] at hk'
          exact absurd rfl (hgne u' gg hu' e2 hk')
    · simp only [if_neg e] at hk
      refine ⟨(h.sep j k hj hk).1, (h.sep j k hj hk).2.1, fun u' hu' hk' => ?_⟩
      by_cases e2 : u' = u
      · subst e2
        simp only [if_true] at hk'
        obtain rfl : gg = k := by simpa [Value.ownBlock] using hk'
        exact absurd rfl (hgne j gg hj e hk)
      · simp only [if_neg e2] at hk'
        exact (h.sep j k hj hk).2.2 u' hu' hk'

/-- THE GRAPH AND THE LOGS. -/
structure Ad (n gB S : Nat) (adj : Nat → List Nat) (xs ys : List Nat) (sv : Nat → Value) (vu vv : Value) (w : World) : Prop where
  gr : Gr n adj gB S sv w
  us : w.ownsRow 0 3 1 vu xs.length (ints xs)
  vs : w.ownsRow 0 3 1 vv ys.length (ints ys)
  s1 : ∀ k, vu.ownBlock = some k → ¬ gblk n gB S sv k
  s2 : ∀ k, vv.ownBlock = some k → ¬ gblk n gB S sv k
  s3 : ∀ k, vu.ownBlock = some k → vv.ownBlock ≠ some k

def adblk (n gB S : Nat) (sv : Nat → Value) (vu vv : Value) (k : Nat) : Prop := gblk n gB S sv k ∨ vu.ownBlock = some k ∨ vv.ownBlock = some k

theorem Ad.lt_size {n gB S : Nat} {adj : Nat → List Nat} {xs ys : List Nat} {sv : Nat → Value} {vu vv : Value} {w : World} (h : Ad n gB S adj xs ys sv vu vv w) (k : Nat) (hk : adblk n gB S sv vu vv k) : k < w.heap.size := by
  rcases hk with hk | hk | hk
  · exact h.gr.lt_size k hk
  · exact ownsRow_lt h.us k hk
  · exact ownsRow_lt h.vs k hk
theorem Ad.of_block {n gB S : Nat} {adj : Nat → List Nat} {xs ys : List Nat} {sv : Nat → Value} {vu vv : Value} {w w' : World} (h : Ad n gB S adj xs ys sv vu vv w) (hb : ∀ k, adblk n gB S sv vu vv k → w'.heap[k]? = w.heap[k]?) : Ad n gB S adj xs ys sv vu vv w' :=
  ⟨h.gr.of_block fun k hk => hb k (Or.inl hk), ownsRow_of_block h.us fun k hk => hb k (Or.inr (Or.inl hk)), ownsRow_of_block h.vs fun k hk => hb k (Or.inr (Or.inr hk)), h.s1, h.s2, h.s3⟩
theorem Ad.alloc {n gB S : Nat} {adj : Nat → List Nat} {xs ys : List Nat} {sv : Nat → Value} {vu vv : Value} {w : World} (h : Ad n gB S adj xs ys sv vu vv w) (o : Obj) : Ad n gB S adj xs ys sv vu vv (w.alloc o) :=
  h.of_block fun k hk => Below.heap_alloc _ _ _ (h.lt_size k hk)

/-- How they go on. -/
def AdF (n gB S : Nat) (sv0 : Nat → Value) (vu0 vv0 : Value) (w0 : World) (sv : Nat → Value) (vu vv : Value) (w : World) : Prop :=
  Keeps (adblk n gB S sv0 vu0 vv0) w0 w ∧ ∀ k, adblk n gB S sv vu vv k → adblk n gB S sv0 vu0 vv0 k ∨ w0.heap.size ≤ k
theorem AdF.refl (n gB S : Nat) (sv0 : Nat → Value) (vu0 vv0 : Value) (w0 : World) : AdF n gB S sv0 vu0 vv0 w0 sv0 vu0 vv0 w0 := ⟨Keeps.refl _ _, fun _ h => Or.inl h⟩
theorem AdF.trans {n gB S : Nat} {sv0 sv1 sv2 : Nat → Value} {vu0 vv0 vu1 vv1 vu2 vv2 : Value} {w0 w1 w2 : World} (h : AdF n gB S sv0 vu0 vv0 w0 sv1 vu1 vv1 w1) (k : AdF n gB S sv1 vu1 vv1 w1 sv2 vu2 vv2 w2) : AdF n gB S sv0 vu0 vv0 w0 sv2 vu2 vv2 w2 := by
  refine ⟨h.1.trans k.1 fun j hj hd => ?_, fun j hj => ?_⟩
  · rcases h.2 j hd with h1 | h1
    · exact h1
    · omega
  · rcases k.2 j hj with h1 | h1
    · exact h.2 j h1
    · exact Or.inr (Nat.le_trans h.1.size h1)
theorem AdF.alloc {n gB S : Nat} {sv0 sv1 : Nat → Value} {vu0 vv0 vu1 vv1 : Value} {w0 w1 : World} (h : AdF n gB S sv0 vu0 vv0 w0 sv1 vu1 vv1 w1) (o : Obj) : AdF n gB S sv0 vu0 vv0 w0 sv1 vu1 vv1 (w1.alloc o) := ⟨h.1.alloc o, h.2⟩

theorem Ad.pushG {n gB S : Nat} {adj : Nat → List Nat} {xs ys : List Nat} {sv : Nat → Value} {vu vv : Value} {w w1 : World} (h : Ad n gB S adj xs ys sv vu vv w) {u v gg cap : Nat} (hu : u < n) (hv : v < n) (huv : u ≠ v) (hlen : (adj u).length + 1 ≤ 4096)
    (ho : w1.ownsRow 0 21 1 (.slice (some ⟨gg, 0, none⟩) ((adj u).length + 1) cap) ((adj u).length + 1) (trailCells (adj u) ++ [Value.int .i32 (v : Int)])) (hat : (sv u).ownBlock = some gg ∨ w.heap.size ≤ gg)
    (hrow : w1.rowIs S 38 n (fun j => if j = u then .slice (some ⟨gg, 0, none⟩) ((adj u).length + 1) cap else sv j)) (hK : Keeps (fun j => j = S ∨ (sv u).ownBlock = some j) w w1) :
    ∃ sv1, Ad n gB S (fun j => if j = u then adj u ++ [v] else adj j) xs ys sv1 vu vv w1 ∧ AdF n gB S sv vu vv w sv1 vu vv w1 := by
  refine ⟨_, ⟨h.gr.push hu hv huv hlen ho hat hrow hK, ?_, ?_, ?_, ?_, h.s3⟩, ?_, ?_⟩
  · refine ownsRow_of_block h.us fun k hk => hK.block k (ownsRow_lt h.us k hk) ?_
    rintro (e | e)
    · exact h.s1 k hk (Or.inr (Or.inl e))
    · exact h.s1 k hk (Or.inr (Or.inr ⟨u, hu, e⟩))
  · refine ownsRow_of_block h.vs fun k hk => hK.block k (ownsRow_lt h.vs k hk) ?_
    rintro (e | e)
    · exact h.s2 k hk (Or.inr (Or.inl e))
    · exact h.s2 k hk (Or.inr (Or.inr ⟨u, hu, e⟩))
  · intro k hk hb
    have hlt := ownsRow_lt h.us k hk
    rcases hb with e | e | ⟨j, hj, e⟩
    · exact h.s1 k hk (Or.inl e)
    · exact h.s1 k hk (Or.inr (Or.inl e))
    · by_cases ej : j = u
      · subst ej
        simp only [if_true] at e
        obtain rfl : gg = k := by simpa [Value.ownBlock] using e
        rcases hat with h1 | h1
        · exact h.s1 gg hk (Or.inr (Or.inr ⟨j, hj, h1⟩))
        · omega
      · simp only [if_neg ej] at e
        exact h.s1 k hk (Or.inr (Or.inr ⟨j, hj, e⟩))
  · intro k hk hb
    have hlt := ownsRow_lt h.vs k hk
    rcases hb with e | e | ⟨j, hj, e⟩
    · exact h.s2 k hk (Or.inl e)
    · exact h.s2 k hk (Or.inr (Or.inl e))
    · by_cases ej : j = u
      · subst ej
        simp only [if_true] at e
        obtain rfl : gg = k := by simpa [Value.ownBlock] using e
        rcases hat with h1 | h1
        · exact h.s2 gg hk (Or.inr (Or.inr ⟨j, hj, h1⟩))
        · omega
      · simp only [if_neg ej] at e
        exact h.s2 k hk (Or.inr (Or.inr ⟨j, hj, e⟩))
  · refine hK.mono fun j _ hj => ?_
    rcases hj with e | e
    · exact Or.inl (Or.inr (Or.inl e))
    · exact Or.inl (Or.inr (Or.inr ⟨u, hu, e⟩))
  · intro k hk
    rcases hk with (e | e | ⟨j, hj, e⟩) | e
    · exact Or.inl (Or.inl (Or.inl e))
    · exact Or.inl (Or.inl (Or.inr (Or.inl e)))
    · by_cases ej : j = u
      · subst ej
        simp only [if_true] at e
        obtain rfl : gg = k := by simpa [Value.ownBlock] using e
        rcases hat with h1 | h1
        · exact Or.inl (Or.inl (Or.inr (Or.inr ⟨j, hj, h1⟩)))
        · exact Or.inr h1
      · simp only [if_neg ej] at e
        exact Or.inl (Or.inl (Or.inr (Or.inr ⟨j, hj, e⟩)))
    · exact Or.inl (Or.inr e)

theorem Ad.pushU {n gB S : Nat} {adj : Nat → List Nat} {xs ys : List Nat} {sv : Nat → Value} {vu vv : Value} {w w1 : World} (h : Ad n gB S adj xs ys sv vu vv w) {u gg cap : Nat}
    (ho : w1.ownsRow 0 3 1 (.slice (some ⟨gg, 0, none⟩) (xs.length + 1) cap) (xs.length + 1) (ints xs ++ [Value.int .i64 (u : Int)])) (hat : vu.ownBlock = some gg ∨ w.heap.size ≤ gg) (hg : w.grownBy w1 vu.ownBlock) :
    Ad n gB S adj (xs ++ [u]) ys sv (.slice (some ⟨gg, 0, none⟩) (xs.length + 1) cap) vv w1 ∧ AdF n gB S sv vu vv w sv (.slice (some ⟨gg, 0, none⟩) (xs.length + 1) cap) vv w1 := by
  have hob : ∀ k, (Value.slice (some ⟨gg, 0, none⟩) (xs.length + 1) cap).ownBlock = some k → k = gg := fun k hk => by simpa [Value.ownBlock, eq_comm] using hk
  refine ⟨⟨h.gr.of_block fun k hk => hg.block k (h.gr.lt_size k hk) fun e => h.s1 k e.symm hk, ?_, ownsRow_of_block h.vs fun k hk => hg.block k (ownsRow_lt h.vs k hk) fun e => h.s3 k e.symm hk, ?_, h.s2, ?_⟩, ?_, ?_⟩
  · rw [List.length_append, List.length_singleton, ints_append]; exact ho
  · intro k hk hb
    obtain rfl := hob k hk
    rcases hat with h1 | h1
    · exact h.s1 k h1 hb
    · have := h.gr.lt_size k hb; omega
  · intro k hk hb
    obtain rfl := hob k hk
    rcases hat with h1 | h1
    · exact h.s3 k h1 hb
    · have := ownsRow_lt h.vs k hb; omega
  · exact (Keeps.refl _ _).grown hg fun j hj _ => Or.inr (Or.inl hj)
  · rintro k (hk | hk | hk)
    · exact Or.inl (Or.inl hk)
    · obtain rfl := hob k hk
      rcases hat with h1 | h1
      · exact Or.inl (Or.inr (Or.inl h1))
      · exact Or.inr h1
    · exact Or.inl (Or.inr (Or.inr hk))

theorem Ad.pushV {n gB S : Nat} {adj : Nat → List Nat} {xs ys : List Nat} {sv : Nat → Value} {vu vv : Value} {w w1 : World} (h : Ad n gB S adj xs ys sv vu vv w) {u gg cap : Nat}
    (ho : w1.ownsRow 0 3 1 (.slice (some ⟨gg, 0, none⟩) (ys.length + 1) cap) (ys.length + 1) (ints ys ++ [Value.int .i64 (u : Int)])) (hat : vv.ownBlock = some gg ∨ w.heap.size ≤ gg) (hg : w.grownBy w1 vv.ownBlock) :
    Ad n gB S adj xs (ys ++ [u]) sv vu (.slice (some ⟨gg, 0, none⟩) (ys.length + 1) cap) w1 ∧ AdF n gB S sv vu vv w sv vu (.slice (some ⟨gg, 0, none⟩) (ys.length + 1) cap) w1 := by
  have hob : ∀ k, (Value.slice (some ⟨gg, 0, none⟩) (ys.length + 1) cap).ownBlock = some k → k = gg := fun k hk => by simpa [Value.ownBlock, eq_comm] using hk
  refine ⟨⟨h.gr.of_block fun k hk => hg.block k (h.gr.lt_size k hk) fun e => h.s2 k e.symm hk, ownsRow_of_block h.us fun k hk => hg.block k (ownsRow_lt h.us k hk) fun e => h.s3 k hk e.symm, ?_, h.s1, ?_, ?_⟩, ?_, ?_⟩
  · rw [List.length_append, List.length_singleton, ints_append]; exact ho
  · intro k hk hb
    obtain rfl := hob k hk
    rcases hat with h1 | h1
    · exact h.s2 k h1 hb
    · have := h.gr.lt_size k hb; omega
  · intro k hk hb
    obtain rfl := hob k hb
    rcases hat with h1 | h1
    · exact h.s3 k hk h1
    · have := ownsRow_lt h.us k hk; omega
  · exact (Keeps.refl _ _).grown hg fun j hj _ => Or.inr (Or.inr hj)
  · rintro k (hk | hk | hk)
    · exact Or.inl (Or.inl hk)
    · exact Or.inl (Or.inr (Or.inl hk))
    · obtain rfl := hob k hk
      rcases hat with h1 | h1
      · exact Or.inl (Or.inr (Or.inr h1))
      · exact Or.inr h1
end Go.Proofs.YbulkbnbgDoor.Pr
