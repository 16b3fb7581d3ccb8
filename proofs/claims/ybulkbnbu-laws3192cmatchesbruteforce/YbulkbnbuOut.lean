/-
  'out.sizes, out.values = append(out.sizes, ..), append(out.values, ..)': the staircase that 'add' makes (function 30), its storage laid ready.
-/
import Derived.Test.YbulkbnbuMem
namespace Go.Proofs.Ybulkbnbu.Kn
set_option linter.unusedSimpArgs false
set_option linter.unusedVariables false
open Go.ChangeShapes Go.WideShapes Go.ChangeAt Go.RowKit
open Go.Proofs.Ybulkbnbu.Fl

theorem info26 : (Yba.prog.info? 26).map (fun i => (i.zero, i.size, i.bytes)) = some (some (.float .f64 0), 1, 8) := by kernel_rfl
def ints (xs : List Nat) : List Value := xs.map fun (n : Nat) => .int .i64 (n : Int)
def flts (us : List Nat) : List Value := us.map fun n => .float .f64 (W n)
theorem ints_one (xs : List Nat) : ∀ u ∈ ints xs, u.oneCell' = true := by intro u hu; obtain ⟨n, _, rfl⟩ := List.mem_map.1 hu; rfl
theorem flts_one (xs : List Nat) : ∀ u ∈ flts xs, u.oneCell' = true := by intro u hu; obtain ⟨n, _, rfl⟩ := List.mem_map.1 hu; rfl
theorem ints_append (a b : List Nat) : ints (a ++ b) = ints a ++ ints b := by simp [ints]
theorem flts_append (a b : List Nat) : flts (a ++ b) = flts a ++ flts b := by simp [flts]

/-- An append within the capacity. -/
theorem wp_fits {w : World} {o : Oper} {a : Act} {K : Act → World → Prop} {Q : Exit → Act → World → Prop} (s x : Operand) (t e : TypeId) (ho : o.op = .call { callee := .builtin .append, args := #[s, x], argTypes := #[t, t] })
    (base size : Nat) (i : TypeInfo) (h1 : Yba.prog.underlying t = some (.slice e)) (h2 : Yba.prog.info? e = some i) (h4 : i.size = size)
    (g k cap : Nat) (xs : List Value) (hs : a.eval s = .slice (some ⟨g, 0, none⟩) k cap) (hown : w.ownsRow base e size (.slice (some ⟨g, 0, none⟩) k cap) k xs) (ad : Addr) (m c : Nat) (news : List Value) (hx : a.eval x = .slice (some ad) m c) (hn : news.length = m * size)
    (hc : ∀ j u, news[j]? = some u → w.cell? (ad.add j) = some u) (h1c : ∀ u ∈ news, u.oneCell' = true) (b1 : k + m ≤ cap)
    (hK : ∀ w', w'.ownsRow base e size (.slice (some ⟨g, 0, none⟩) (k + m) cap) (k + m) (xs ++ news) → w.grownBy w' (some g) → K (a.put o.dst (.slice (some ⟨g, 0, none⟩) (k + m) cap)) w') : o.wp Yba.prog a w K Q := by
  obtain ⟨w', hr, r1, r2⟩ := run_append_fits (P := Yba.prog) w base t o.type e i size h1 h2 h4 g k cap xs hown ad m c news hn hc h1c b1
  unfold Oper.wp execOp
  simp only [ho, resolve, invoke, builtin, Sem.run_bind, Sem.run_pure, Result.andThen_ok, List.map_toArray, List.map_cons, List.map_nil, hs, hx, hr]
  exact hK w' r1 r2

/-- What an operation leaves: a new block of one element, or the value told. -/
def WW (V : Nat → Value) (B : Nat → Option (Array Value × Nat)) (H i : Nat) (v : Value) (wx : World) : Prop :=
  match B i with
  | some (c, t) => ∃ b, v = .slice (some ⟨b, 0, none⟩) 1 1 ∧ H ≤ b ∧ b < wx.heap.size ∧ wx.heap[b]? = some (.cells c t (0, 0))
  | none => v = V i
theorem WW_ext (V : Nat → Value) (B : Nat → Option (Array Value × Nat)) (H : Nat) : ∀ i v wx wx', Ext H wx wx' → WW V B H i v wx → WW V B H i v wx' := by
  intro i v wx wx' hE h
  unfold WW at *
  split
  · rename_i c t e
    rw [e] at h
    obtain ⟨b, h1, h2, h3, h4⟩ := h
    exact ⟨b, h1, h2, Nat.lt_of_lt_of_le h3 hE.size, (hE.block b h2 h3).trans h4⟩
  · rename_i e
    rw [e] at h
    exact h

/-- The staircase that is being made: its header at hb, its rows. -/
structure Out (B : Nat) (w : World) (hb gs gv cs cv : Nat) (n0 n1 : Nat) (xs us : List Nat) : Prop where
  hdr : w.rowIs hb 56 2 (fun j => if j = 0 then .slice (some ⟨gs, 0, none⟩) n0 cs else .slice (some ⟨gv, 0, none⟩) n1 cv)
  rs : w.ownsRow B 3 1 (.slice (some ⟨gs, 0, none⟩) xs.length cs) xs.length (ints xs)
  rv : w.ownsRow B 26 1 (.slice (some ⟨gv, 0, none⟩) us.length cv) us.length (flts us)
  keeps : True

theorem Out.ne {B : Nat} {w : World} {hb gs gv cs cv n0 n1 : Nat} {xs us : List Nat} (h : Out B w hb gs gv cs cv n0 n1 xs us) : hb ≠ gs ∧ hb ≠ gv ∧ gs ≠ gv ∧ hb < w.heap.size ∧ gs < w.heap.size ∧ gv < w.heap.size := by
  obtain ⟨c, hc⟩ := row_tag h.hdr
  obtain ⟨_, c1, h1⟩ := ownsRow_tag h.rs gs rfl
  obtain ⟨_, c2, h2⟩ := ownsRow_tag h.rv gv rfl
  exact ⟨tag_ne hc h1 (by decide), tag_ne hc h2 (by decide), tag_ne h1 h2 (by decide), h.hdr.lt, ownsRow_lt h.rs gs rfl, ownsRow_lt h.rv gv rfl⟩
theorem Out.move {B : Nat} {w w' : World} {hb gs gv cs cv n0 n1 : Nat} {xs us : List Nat} (h : Out B w hb gs gv cs cv n0 n1 xs us) (e1 : w'.heap[hb]? = w.heap[hb]?) (e2 : w'.heap[gs]? = w.heap[gs]?) (e3 : w'.heap[gv]? = w.heap[gv]?) : Out B w' hb gs gv cs cv n0 n1 xs us :=
  ⟨h.hdr.of_block e1, ownsRow_of_block h.rs (fun g hg => by simp [Value.ownBlock] at hg; subst hg; exact e2), ownsRow_of_block h.rv (fun g hg => by simp [Value.ownBlock] at hg; subst hg; exact e3), trivial⟩
theorem Out.alloc {B : Nat} {w : World} {hb gs gv cs cv n0 n1 : Nat} {xs us : List Nat} (h : Out B w hb gs gv cs cv n0 n1 xs us) (o : Obj) : Out B (w.alloc o) hb gs gv cs cv n0 n1 xs us := by
  obtain ⟨_, _, _, a, b, c⟩ := h.ne
  exact h.move (Below.heap_alloc _ _ _ a) (Below.heap_alloc _ _ _ b) (Below.heap_alloc _ _ _ c)
theorem Out.drew {B : Nat} {w : World} {hb gs gv cs cv n0 n1 : Nat} {xs us : List Nat} (h : Out B w hb gs gv cs cv n0 n1 xs us) : Out B w.drew hb gs gv cs cv n0 n1 xs us := ⟨h.hdr, h.rs, h.rv, trivial⟩

/-- What stands while the two appends and the two stores run: by which of the four have run. -/
structure GO (B : Nat) (w0 : World) (hb gs gv cs cv : Nat) (xs us nx nu : List Nat) (a b c d : Bool) (w : World) : Prop where
  out : Out B w hb gs gv cs cv (if c then (xs ++ nx).length else xs.length) (if d then (us ++ nu).length else us.length) (if a then xs ++ nx else xs) (if b then us ++ nu else us)
  keeps : Keeps (fun k => k = hb ∨ k = gs ∨ k = gv) w0 w

theorem GO.alloc {B : Nat} {w0 : World} {hb gs gv cs cv : Nat} {xs us nx nu : List Nat} {a b c d : Bool} {w : World} (h : GO B w0 hb gs gv cs cv xs us nx nu a b c d w) (o : Obj) : GO B w0 hb gs gv cs cv xs us nx nu a b c d (w.alloc o) := ⟨h.out.alloc o, h.keeps.alloc o⟩

section
variable {B : Nat} {w0 w w' : World} {hb gs gv cs cv : Nat} {xs us nx nu : List Nat}
theorem GO.appA (h : GO B w0 hb gs gv cs cv xs us nx nu false false false false w) (ho : w'.ownsRow B 3 1 (.slice (some ⟨gs, 0, none⟩) (xs.length + nx.length) cs) (xs.length + nx.length) (ints xs ++ ints nx)) (hg : w.grownBy w' (some gs)) : GO B w0 hb gs gv cs cv xs us nx nu true false false false w' := by
  obtain ⟨n1, n2, n3, l1, l2, l3⟩ := h.out.ne
  refine ⟨⟨h.out.hdr.of_block (hg.block hb l1 (by simpa using n1)), ?_, ownsRow_of_block h.out.rv (fun g hg' => by simp [Value.ownBlock] at hg'; subst hg'; exact hg.block gv l3 (by simpa using (Ne.symm n3))), trivial⟩, h.keeps.grown hg (fun k hk _ => by simp at hk; exact Or.inr (Or.inl hk.symm))⟩
  simp only [if_true, List.length_append, ints_append]; exact ho
theorem GO.appB (h : GO B w0 hb gs gv cs cv xs us nx nu true false false false w) (ho : w'.ownsRow B 26 1 (.slice (some ⟨gv, 0, none⟩) (us.length + nu.length) cv) (us.length + nu.length) (flts us ++ flts nu)) (hg : w.grownBy w' (some gv)) : GO B w0 hb gs gv cs cv xs us nx nu true true false false w' := by
  obtain ⟨n1, n2, n3, l1, l2, l3⟩ := h.out.ne
  refine ⟨⟨h.out.hdr.of_block (hg.block hb l1 (by simpa using n2)), ownsRow_of_block h.out.rs (fun g hg' => by simp [Value.ownBlock] at hg'; subst hg'; exact hg.block gs l2 (by simpa using n3)), ?_, trivial⟩, h.keeps.grown hg (fun k hk _ => by simp at hk; exact Or.inr (Or.inr hk.symm))⟩
  simp only [if_true, List.length_append, flts_append]; exact ho
theorem GO.stA (h : GO B w0 hb gs gv cs cv xs us nx nu true true false false w) : GO B w0 hb gs gv cs cv xs us nx nu true true true false (w.setCell ⟨hb, 0, none⟩ (.slice (some ⟨gs, 0, none⟩) (xs ++ nx).length cs)) := by
  obtain ⟨n1, n2, n3, l1, l2, l3⟩ := h.out.ne
  refine ⟨⟨(h.out.hdr.set 0 _).congr (fun j _ => by by_cases e : j = 0 <;> simp [e]), ownsRow_of_block h.out.rs (fun g hg' => by simp [Value.ownBlock] at hg'; subst hg'; exact Below.heap_setCell _ _ _ _ (Ne.symm n1)), ownsRow_of_block h.out.rv (fun g hg' => by simp [Value.ownBlock] at hg'; subst hg'; exact Below.heap_setCell _ _ _ _ (Ne.symm n2)), trivial⟩, h.keeps.setCell (fun _ => Or.inl rfl) _⟩
theorem GO.stB (h : GO B w0 hb gs gv cs cv xs us nx nu true true true false w) : GO B w0 hb gs gv cs cv xs us nx nu true true true true (w.setCell ⟨hb, 1, none⟩ (.slice (some ⟨gv, 0, none⟩) (us ++ nu).length cv)) := by
  obtain ⟨n1, n2, n3, l1, l2, l3⟩ := h.out.ne
  refine ⟨⟨(h.out.hdr.set 1 _).congr (fun j hj => by
    by_cases e : j = 1
    · subst e; simp
    · have e0 : j = 0 := by omega
      subst e0; simp), ownsRow_of_block h.out.rs (fun g hg' => by simp [Value.ownBlock] at hg'; subst hg'; exact Below.heap_setCell _ _ _ _ (Ne.symm n1)), ownsRow_of_block h.out.rv (fun g hg' => by simp [Value.ownBlock] at hg'; subst hg'; exact Below.heap_setCell _ _ _ _ (Ne.symm n2)), trivial⟩, h.keeps.setCell (fun _ => Or.inl rfl) _⟩
theorem GO.hd0 {a b d : Bool} (h : GO B w0 hb gs gv cs cv xs us nx nu a b false d w) : w.cell? ⟨hb, 0, none⟩ = some (.slice (some ⟨gs, 0, none⟩) xs.length cs) := by
  simpa using h.out.hdr.cell (i := 0) (by omega)
theorem GO.hd1 {a b c : Bool} (h : GO B w0 hb gs gv cs cv xs us nx nu a b c false w) : w.cell? ⟨hb, 1, none⟩ = some (.slice (some ⟨gv, 0, none⟩) us.length cv) := by
  simpa using h.out.hdr.cell (i := 1) (by omega)
end
end Go.Proofs.Ybulkbnbu.Kn
