/-
  What the walks of this program say of memory; a region that draws its order, walked by an invariant.
-/
import Derived.Test.YbulkbnbuItems
import Derived.Test.YbulkbnbuAny
import Derived.WalkKit
import Derived.ProofKit
import Derived.OpenShut
import Derived.Handy
import Derived.Below
import Derived.Carry
import Derived.Deep.OwnRows
import Derived.Deep.QuietTactic
import Derived.BigQuiet
import Derived.RegionTactic
import Derived.BigRegion
import Derived.WalkSmall
import Derived.WalkMore
import Derived.Laws.BitsAllLaws
import Derived.Deep.AppendLies
import Derived.Deep.DeepCutAuto
import Derived.Deep.RegionHeld3
import Derived.Deep.DrawnRows
import Derived.Deep.LoopGhost
namespace Go.Proofs.Ybulkbnbu.Kn
set_option linter.unusedSimpArgs false
open Go.ChangeShapes Go.WideShapes Go.ChangeAt Go.RowKit
open Go.Proofs.Ybulkbnbu.Fl

theorem ownsRow_of_block {w w' : World} {base e size n : Nat} {v : Value} {xs : List Value} (h : w.ownsRow base e size v n xs)
    (hb : ∀ g, v.ownBlock = some g → w'.heap[g]? = w.heap[g]?) : w'.ownsRow base e size v n xs := by
  refine ⟨h.1, ?_⟩
  rcases h.2 with h2 | ⟨g, cap, cur, hv, hg, hh, r⟩
  · exact Or.inl h2
  · exact Or.inr ⟨g, cap, cur, hv, hg, (hb g (by rw [hv]; rfl)).trans hh, r⟩
theorem ownsRow_lt {w : World} {base e size n : Nat} {v : Value} {xs : List Value} (h : w.ownsRow base e size v n xs) (g : Nat) (hg : v.ownBlock = some g) : g < w.heap.size := by
  rcases h.2 with ⟨hv, _⟩ | ⟨g', cap, cur, hv, _, hh, _⟩
  · rw [hv] at hg; cases hg
  · rw [hv] at hg
    obtain rfl : g' = g := by simpa [Value.ownBlock] using hg
    obtain ⟨hlt, _⟩ := Array.getElem?_eq_some_iff.1 hh
    exact hlt
theorem ownsRow_tag {w : World} {base e size n : Nat} {v : Value} {xs : List Value} (h : w.ownsRow base e size v n xs) (g : Nat) (hg : v.ownBlock = some g) : base ≤ g ∧ ∃ c, w.heap[g]? = some (.cells c e (0, 0)) := by
  rcases h.2 with ⟨hv, _⟩ | ⟨g', cap, cur, hv, hb, hh, _⟩
  · rw [hv] at hg; cases hg
  · rw [hv] at hg
    obtain rfl : g' = g := by simpa [Value.ownBlock] using hg
    exact ⟨hb, cur, hh⟩
theorem row_tag {w : World} {b n : Nat} {t : TypeId} {f : Nat → Value} (h : w.rowIs b t n f) : ∃ c, w.heap[b]? = some (.cells c t (0, 0)) := by
  obtain ⟨c, hc, _⟩ := h
  exact ⟨c, hc⟩
theorem tag_ne {w : World} {a b : Nat} {c c' : Array Value} {t t' : TypeId} {f f' : Nat × Nat} (h : w.heap[a]? = some (.cells c t f)) (h' : w.heap[b]? = some (.cells c' t' f')) (hne : t ≠ t') : a ≠ b := by
  rintro rfl
  rw [h] at h'
  cases h'
  exact hne rfl
/-- The value of an owned row is a slice; its cells. -/
theorem own_shape {w : World} {base e size n : Nat} {v : Value} {xs : List Value} (h : w.ownsRow base e size v n xs) : ∃ a cap, v = .slice a n cap ∧ ∀ i u, xs[i]? = some u → ∃ b, a = some ⟨b, 0, none⟩ ∧ w.cell? ⟨b, i, none⟩ = some u := by
  rcases h.2 with ⟨hv, h0⟩ | ⟨g, cap, cur, hv, hb, hh, hn, hc, hs, ht⟩
  · subst h0
    refine ⟨none, 0, hv, fun i u hu => ?_⟩
    have := h.1
    simp at this
    subst this
    simp at hu
  · refine ⟨some ⟨g, 0, none⟩, cap, hv, fun i u hu => ⟨g, rfl, ?_⟩⟩
    rw [cell_of_row w g i cur e (0, 0) hh]
    rw [← ht, List.getElem?_take] at hu
    split at hu
    · simpa using hu
    · cases hu

theorem tmps_eq {tm : Array Value} {N : Nat} (h : tm.size = N) : tm = ((List.range N).map fun t => tm[t]?.getD undef).toArray := by
  apply Array.ext
  · simp [h]
  · intro i h1 h2
    simp [h1]

/-- The region of a number. -/
def reg (n : Nat) : Code → Option Code
  | .region i ops d => if i = n then some (.region i ops d) else none
  | .seq a b => (reg n a).or (reg n b)
  | .cond _ a b => (reg n a).or (reg n b)
  | .loop a => reg n a
  | .block _ a => reg n a
  | _ => none

/-- All blocks that stood, but for those that D names, are as they were. -/
structure Keeps (D : Nat → Prop) (w w' : World) : Prop where
  os : w'.os = w.os
  tape : w'.tape = w.tape
  output : w'.output = w.output
  size : w.heap.size ≤ w'.heap.size
  block : ∀ k, k < w.heap.size → ¬ D k → w'.heap[k]? = w.heap[k]?

namespace Keeps
variable {D E : Nat → Prop} {w w' w'' : World}
theorem refl (D : Nat → Prop) (w : World) : Keeps D w w := ⟨rfl, rfl, rfl, Nat.le_refl _, fun _ _ _ => rfl⟩
theorem mono (h : Keeps D w w') (hDE : ∀ k, k < w.heap.size → D k → E k) : Keeps E w w' :=
  ⟨h.os, h.tape, h.output, h.size, fun k hk hE => h.block k hk fun hd => hE (hDE k hk hd)⟩
theorem trans (h : Keeps D w w') (k : Keeps E w' w'') (hE : ∀ j, j < w.heap.size → E j → D j) : Keeps D w w'' :=
  ⟨k.os.trans h.os, k.tape.trans h.tape, k.output.trans h.output, Nat.le_trans h.size k.size,
    fun j hj hD => (k.block j (Nat.lt_of_lt_of_le hj h.size) fun he => hD (hE j hj he)).trans (h.block j hj hD)⟩
theorem drew (h : Keeps D w w') : Keeps D w w'.drew := ⟨h.os, h.tape, h.output, h.size, h.block⟩
theorem drewN (h : Keeps D w w') (n : Nat) : Keeps D w (w'.drewN n) := ⟨h.os, h.tape, h.output, h.size, h.block⟩
theorem alloc (h : Keeps D w w') (o : Obj) : Keeps D w (w'.alloc o) :=
  ⟨h.os, h.tape, h.output, by have := h.size; simp; omega, fun k hk hd => (Below.heap_alloc _ _ _ (by have := h.size; omega)).trans (h.block k hk hd)⟩
theorem setCell (h : Keeps D w w') {a : Addr} (ha : a.block < w.heap.size → D a.block) (v : Value) : Keeps D w (w'.setCell a v) :=
  ⟨h.os, h.tape, h.output, by have := h.size; simp [World.setCell]; omega, fun k hk hd => (Below.heap_setCell _ _ _ _ (fun e => hd (by subst e; exact ha hk))).trans (h.block k hk hd)⟩
theorem grown (h : Keeps D w w') {row : Option Nat} (hg : w'.grownBy w'' row) (hr : ∀ k, row = some k → k < w.heap.size → D k) : Keeps D w w'' :=
  ⟨hg.os.trans h.os, hg.tape.trans h.tape, hg.output.trans h.output, Nat.le_trans h.size hg.size,
    fun k hk hd => (hg.block k (by have := h.size; omega) (fun e => hd (hr k e.symm hk))).trans (h.block k hk hd)⟩
theorem cell {a : Addr} {v : Value} (h : Keeps D w w') (hc : w.cell? a = some v) (hd : ¬ D a.block) : w'.cell? a = some v := by
  rw [World.cell?_of_block (h.block a.block (World.block_lt_of_cell? w _ hc) hd)]; exact hc
end Keeps

/-- What an assignment 'x.f = append(x.f, ..)' leaves. -/
structure Apd (w w' : World) (hb ho t n : Nat) (f : Nat → Value) (B e size : Nat) (m : Nat) (xs news : List Value) (gg cap : Nat) : Prop where
  row : w'.rowIs hb t n (fun j => if j = ho then .slice (some ⟨gg, 0, none⟩) (m + 1) cap else f j)
  owns : w'.ownsRow B e size (.slice (some ⟨gg, 0, none⟩) (m + 1) cap) (m + 1) (xs ++ news)
  at_ : (f ho).ownBlock = some gg ∨ w.heap.size ≤ gg
  keeps : Keeps (fun k => k = hb ∨ (f ho).ownBlock = some k) w w'


theorem wp_of_value {P : Program} {o : Oper} {a : Act} {w w' : World} {v : Value} {K : Act → World → Prop} {Q : Exit → Act → World → Prop} (h : (execOp a.eval o).run P w = .ok (.value v) w') (hK : K (a.put o.dst v) w') : o.wp P a w K Q := by
  unfold Oper.wp; rw [h]; exact hK
theorem wp_of_skip {P : Program} {o : Oper} {a : Act} {w w' : World} {K : Act → World → Prop} {Q : Exit → Act → World → Prop} (h : (execOp a.eval o).run P w = .ok .skip w') (hK : K (a.put o.dst undef) w') : o.wp P a w K Q := by
  unfold Oper.wp; rw [h]; exact hK
theorem wp_of_call {P : Program} {o : Oper} {a : Act} {w w1 : World} {f : FuncId} {args : Array Value} {K : Act → World → Prop} {Q : Exit → Act → World → Prop} (h : (execOp a.eval o).run P w = .ok (.enter f args) w1)
    (hC : Calls P f args w1 fun e w' => ∃ v, e = .returned v ∧ K (a.put o.dst v) w') : o.wp P a w K Q := by
  unfold Oper.wp; rw [h]
  refine Calls.mono hC fun e w' he => ?_
  obtain ⟨v, rfl, hk⟩ := he
  exact hk
def Go1 (B : Nat) (γ : Option (Nat × Nat)) (w : World) (γ' : Option (Nat × Nat)) (w' : World) : Prop :=
  w.heap.size ≤ w'.heap.size ∧ (∀ b, B ≤ b → b < w.heap.size → w'.heap[b]? = w.heap[b]?) ∧ ∀ p, γ = some p → γ' = some p
theorem Go1.refl (B : Nat) (γ : Option (Nat × Nat)) (w : World) : Go1 B γ w γ w := ⟨Nat.le_refl _, fun _ _ _ => rfl, fun _ h => h⟩

/-- What each operation has left: V, but for the built slice, the appended one, the store. -/
def VA (V : Nat → Value) (ib ia is : Nat) (news : List Value) (tag m B : Nat) (i : Nat) (γ : Option (Nat × Nat)) (v : Value) (w : World) : Prop :=
  if i = ib then ∃ b, v = .slice (some ⟨b, 0, none⟩) 1 1 ∧ B ≤ b ∧ b < w.heap.size ∧ w.heap[b]? = some (.cells news.toArray tag (0, 0))
  else if i = ia then ∃ gg cap, γ = some (gg, cap) ∧ v = .slice (some ⟨gg, 0, none⟩) (m + 1) cap
  else if i = is then True else v = V i
theorem VA_go (V : Nat → Value) (ib ia is : Nat) (news : List Value) (tag m B : Nat) : ∀ i γ v w γ' w', Go1 B γ w γ' w' → VA V ib ia is news tag m B i γ v w → VA V ib ia is news tag m B i γ' v w' := by
  intro i γ v w γ' w' hg h
  unfold VA at *
  split
  · rename_i e
    rw [if_pos e] at h
    obtain ⟨b, rfl, h1, h2, h3⟩ := h
    exact ⟨b, rfl, h1, Nat.lt_of_lt_of_le h2 hg.1, (hg.2.1 b h1 h2).trans h3⟩
  · rename_i e
    rw [if_neg e] at h
    split
    · rename_i e2
      rw [if_pos e2] at h
      obtain ⟨gg, cap, h1, h2⟩ := h
      exact ⟨gg, cap, hg.2.2 _ h1, h2⟩
    · rename_i e2
      rw [if_neg e2] at h
      exact h

/-- What stands of the world meanwhile. -/
structure GA (ia is hb ho ty n : Nat) (rf : Nat → Value) (BB e size m : Nat) (xs news : List Value) (w : World) (listed : Array Bool) (γ : Option (Nat × Nat)) (wx : World) : Prop where
  keeps : Keeps (fun j => j = hb ∨ (rf ho).ownBlock = some j) w wx
  before : listed[ia]? = some false → γ = none ∧ wx.ownsRow BB e size (rf ho) m xs
  after : ∀ gg cap, γ = some (gg, cap) → wx.ownsRow BB e size (.slice (some ⟨gg, 0, none⟩) (m + 1) cap) (m + 1) (xs ++ news) ∧ ((rf ho).ownBlock = some gg ∨ w.heap.size ≤ gg)
  open_ : listed[is]? = some false → wx.rowIs hb ty n rf
  shut : listed[is]? = some true → ∃ gg cap, γ = some (gg, cap) ∧ wx.rowIs hb ty n (fun j => if j = ho then .slice (some ⟨gg, 0, none⟩) (m + 1) cap else rf j)

open Any in
set_option linter.unusedVariables false in
set_option maxHeartbeats 1000000 in
/-- THE LAW OF THE SHAPE. il: the header's load; ib: the built slice; ia: the append; is: the store. -/
theorem app_shape {Q : Exit → Act → World → Prop} {ops : Array Oper} {N rid : Nat} (f : Act) (w : World) (hp : Plain .any ops N = true) (V : Nat → Value) (il ib ia is : Nat) (hne : ib ≠ ia ∧ ib ≠ is ∧ ia ≠ is ∧ il ≠ ib ∧ il ≠ ia ∧ il ≠ is)
    {ob oa os_ : Oper} (hob : ops[ib]? = some ob) (hoa : ops[ia]? = some oa) (hos : ops[is]? = some os_)
    (hb ho ty n : Nat) (rf : Nat → Value) (BB e size bytes m : Nat) (xs news : List Value) (tag t : TypeId) (i0 : TypeInfo) (z : Value)
    (hr : w.rowIs hb ty n rf) (hho : ho < n) (hown : w.ownsRow BB e size (rf ho) m xs) (hm : m ≤ 1000000) (nh : (rf ho).ownBlock ≠ some hb) (hBB : BB ≤ w.heap.size)
    (hund : Yba.prog.underlying t = some (.slice e)) (hi0 : Yba.prog.info? e = some i0) (hz0 : i0.zero = some z) (hz1 : i0.size = size) (hz2 : i0.bytes = bytes) (hzc : z.cells.size = size) (hs0 : 0 < size) (hby : bytes ≤ 64) (htag : tag = e)
    (hnews : news.length = size) (hn1 : ∀ u ∈ news, u.oneCell' = true)
    (sl sb sp sv : Nat) (hdl : (ops[il]?).bind (·.dst) = some sl) (hdb : (ops[ib]?).bind (·.dst) = some sb) (hda : (ops[ia]?).bind (·.dst) = some sv)
    (hoa' : oa.op = .call { callee := .builtin .append, args := #[.tmp sl, .tmp sb], argTypes := #[t, t] }) (hel : ⟨il, .data⟩ ∈ oa.after) (heb : ⟨ib, .data⟩ ∈ oa.after) (hVl : V il = rf ho)
    (hea : ⟨ia, .data⟩ ∈ os_.after) (hosd : os_.dst = none)
    (hsz : f.tmps.size = N) (hds : f.defers = []) (hdst : ∀ i o, ops[i]? = some o → i ≠ ib → i ≠ ia → i ≠ is → o.dst ≠ none)
    (hquiet : ∀ i o, ops[i]? = some o → i ≠ ib → i ≠ ia → i ≠ is → ∀ (b : Act) (wx : World), (∀ a v, w.cell? a = some v → a.block ≠ hb → (rf ho).ownBlock ≠ some a.block → wx.cell? a = some v) →
      ((⟨i, .phase⟩ ∈ os_.after) → wx.cell? ⟨hb, ho, none⟩ = some (rf ho)) → (∀ j d, (⟨j, .data⟩ : Edge) ∈ o.after → j ≠ ib → j ≠ ia → j ≠ is → (ops[j]?).bind (·.dst) = some d → b.tmps[d]?.getD undef = V j) →
      (∀ t, t ∉ ops.toList.filterMap (·.dst) → b.tmps[t]?.getD undef = f.tmps[t]?.getD undef) → (execOp b.eval o).run Yba.prog wx = .ok (.value (V i)) wx)
    (hbuild : ∀ (b : Act) (wx : World), (∀ j d, (⟨j, .data⟩ : Edge) ∈ ob.after → j ≠ ib → j ≠ ia → j ≠ is → (ops[j]?).bind (·.dst) = some d → b.tmps[d]?.getD undef = V j) → (∀ t, t ∉ ops.toList.filterMap (·.dst) → b.tmps[t]?.getD undef = f.tmps[t]?.getD undef) →
      (execOp b.eval ob).run Yba.prog wx = .ok (.value (.slice (some ⟨wx.heap.size, 0, none⟩) 1 1)) (wx.alloc (.cells news.toArray tag)))
    (hstore : ∀ (b : Act) (wx : World) (gg cap : Nat), (∀ j d, (⟨j, .data⟩ : Edge) ∈ os_.after → j ≠ ib → j ≠ ia → j ≠ is → (ops[j]?).bind (·.dst) = some d → b.tmps[d]?.getD undef = V j) → b.tmps[sv]?.getD undef = .slice (some ⟨gg, 0, none⟩) (m + 1) cap → wx.cell? ⟨hb, ho, none⟩ = some (rf ho) → wx.frozen? ⟨hb, ho, none⟩ = false → (∃ x y z, rf ho = .slice x y z) →
      (execOp b.eval os_).run Yba.prog wx = .ok .skip (wx.setCell ⟨hb, ho, none⟩ (.slice (some ⟨gg, 0, none⟩) (m + 1) cap)))
    (hend : ∀ f' w' gg cap, f'.tmps.size = N → f'.defers = [] → (∀ t, t ∉ ops.toList.filterMap (·.dst) → f'.tmps[t]?.getD undef = f.tmps[t]?.getD undef) → Apd w w' hb ho ty n rf BB e size m xs news gg cap → Q .normal f' w') :
    (Code.region rid ops true).wp Yba.prog Q f w := by
  obtain ⟨n1, n2, n3, n4, n5, n6⟩ := hne
  have lh := hr.lt
  have hrow : ∀ j, (rf ho).ownBlock = some j → j < w.heap.size := fun j hj => ownsRow_lt hown j hj
  have hlast : ∀ i o, ops[i]? = some o → i < ops.size := fun i o h => (Array.getElem?_eq_some_iff.1 h).1
  refine wp_region_ops (N := N) (by kernel_rfl) hp (VA V ib ia is news tag m w.heap.size) (GA ia is hb ho ty n rf BB e size m xs news w) (Go1 w.heap.size) none (VA_go V ib ia is news tag m w.heap.size) hsz
    ⟨(Keeps.refl _ _).drew, fun _ => ⟨rfl, hown⟩, fun _ _ h => (by cases h), fun _ => hr, fun h => ?_⟩ ?_ ?_
  · rw [Array.getElem?_replicate] at h
    split at h <;> simp at h
  · intro i o hi listed γ b wx hcl hls hun hpre hR hG
    have hgs := hG.keeps.size
    have hset : ∀ j : Nat, j ≠ i → (listed.setIfInBounds i true)[j]? = listed[j]? := fun j hj => Array.getElem?_setIfInBounds_ne (Ne.symm hj)
    have hself : (listed.setIfInBounds i true)[i]? = some true := Array.getElem?_setIfInBounds_self_of_lt (by rw [hls]; exact hlast i o hi)
    have hdat : ∀ j d, (⟨j, .data⟩ : Edge) ∈ o.after → j ≠ ib → j ≠ ia → j ≠ is → (ops[j]?).bind (·.dst) = some d → b.tmps[d]?.getD undef = V j := fun j d he h1 h2 h3 hd => by
      have := hR.at hd (hpre ⟨j, .data⟩ he rfl)
      unfold VA at this
      rwa [if_neg h1, if_neg h2, if_neg h3] at this
    have hold : ∀ t, t ∉ ops.toList.filterMap (·.dst) → b.tmps[t]?.getD undef = f.tmps[t]?.getD undef := fun t ht => hR.old ht
    by_cases hib : i = ib
    · subst hib
      obtain rfl : o = ob := Option.some.inj (hi.symm.trans hob)
      refine wp_of_value (hbuild b wx hdat hold) ⟨_, γ, rfl, ⟨hG.keeps.alloc _, ?_, ?_, ?_, ?_⟩, ⟨by simp, fun b' _ h => Below.heap_alloc _ _ _ h, fun _ h => h⟩, fun h => ?_, ?_⟩
      · rw [hset ia (Ne.symm n1)]; exact fun h => ⟨(hG.before h).1, (hG.before h).2.alloc _⟩
      · exact fun gg cap h => ⟨(hG.after gg cap h).1.alloc _, (hG.after gg cap h).2⟩
      · rw [hset is (Ne.symm n2)]; exact fun h => (hG.open_ h).alloc _
      · rw [hset is (Ne.symm n2)]; intro h; obtain ⟨gg, cap, h1, h2⟩ := hG.shut h; exact ⟨gg, cap, h1, h2.alloc _⟩
      · rw [hob] at hdb
        rw [show o.dst = some sb from hdb] at h
        cases h
      · unfold VA
        rw [if_pos rfl]
        exact ⟨wx.heap.size, rfl, hgs, by simp, heap_alloc_new wx _⟩
    · by_cases hia : i = ia
      · subst hia
        obtain rfl : o = oa := Option.some.inj (hi.symm.trans hoa)
        have el := hdat il sl hel n4 n5 n6 hdl
        rw [hVl] at el
        have eb := hR.at hdb (hpre ⟨ib, .data⟩ heb rfl)
        unfold VA at eb
        rw [if_pos rfl] at eb
        obtain ⟨bb, e49, hb1, hb2, hb3⟩ := eb
        have hst := hcl.before hls hun hos hea rfl rfl
        obtain ⟨hγ, hown'⟩ := hG.before hun
        refine wp_append_lies wx (.tmp sl) (.tmp sb) t hoa' BB e i0 _ size bytes hund hi0 hz0 hz1 hz2 hzc hs0 (rf ho) m xs (by simpa [Act.eval] using el) hown' ⟨bb, 0, none⟩ 1 1 news (by simpa [Act.eval] using e49) (by simpa using hnews) (World.news_of_block (cs := news.toArray) hb3) hn1 (by omega) (by unfold maxLen; omega) (by have := Nat.mul_le_mul (show m + 1 ≤ 1000001 by omega) hby; omega) (by omega) wx.heap.size rfl ?_
        intro gg cap w1 hown1 hgrow hat hlt
        refine ⟨_, some (gg, cap), rfl, ⟨hG.keeps.grown hgrow (fun j hj _ => Or.inr hj), ?_, ?_, ?_, ?_⟩, ⟨hgrow.size, fun j h1 h2 => hgrow.block j h2 (fun e => ?_), fun q h => ?_⟩, fun h => ?_, ?_⟩
        · intro h; rw [hself] at h; cases h
        · intro gg' cap' h
          obtain ⟨rfl, rfl⟩ : gg = gg' ∧ cap = cap' := by simpa using h
          exact ⟨hown1, hat.imp id (fun e => by omega)⟩
        · intro _; exact (hG.open_ hst).of_block (hgrow.block hb (by omega) (fun e => nh e.symm))
        · rw [hset is (Ne.symm n3), hst]; intro h; cases h
        · have := hrow j e.symm; omega
        · rw [hγ] at h; cases h
        · rw [hoa] at hda
          rw [show o.dst = some sv from hda] at h
          cases h
        · unfold VA
          rw [if_neg (Ne.symm n1), if_pos rfl]
          exact ⟨gg, cap, rfl, rfl⟩
      · by_cases his : i = is
        · subst his
          obtain rfl : o = os_ := Option.some.inj (hi.symm.trans hos)
          have ea := hR.at hda (hpre ⟨ia, .data⟩ hea rfl)
          unfold VA at ea
          rw [if_neg (Ne.symm n1), if_pos rfl] at ea
          obtain ⟨gg, cap, hγ, e50⟩ := ea
          have hP' := hG.open_ hun
          obtain ⟨ho', hat⟩ := hG.after gg cap hγ
          have hia' : listed[ia]? = some true := hpre ⟨ia, .data⟩ hea rfl
          obtain ⟨xa, xc, hxs, _⟩ := own_shape hown
          have hgb : gg ≠ hb := by
            rcases hat with h | h
            · exact fun e => nh (by rw [h, e])
            · omega
          refine wp_of_skip (hstore b wx gg cap hdat e50 (hP'.cell hho) (hP'.frozen ho) ⟨xa, m, xc, hxs⟩) ⟨_, γ, rfl, ⟨hG.keeps.setCell (fun _ => Or.inl rfl) _, ?_, ?_, ?_, ?_⟩, ⟨by simp, fun j h1 _ => Below.heap_setCell _ _ _ _ (by show j ≠ hb; omega), fun _ h => h⟩, fun _ => rfl, ?_⟩
          · rw [hset ia n3, hia']; intro h; cases h
          · intro gg' cap' h
            rw [hγ] at h
            obtain ⟨rfl, rfl⟩ : gg = gg' ∧ cap = cap' := by simpa using h
            exact ⟨ownsRow_of_block ho' (fun j hj => Below.heap_setCell _ _ _ _ (by simp [Value.ownBlock] at hj; subst hj; exact hgb)), hat⟩
          · intro h; rw [hself] at h; cases h
          · intro _; exact ⟨gg, cap, hγ, hP'.set ho _⟩
          · unfold VA
            rw [if_neg (Ne.symm n2), if_neg (Ne.symm n3), if_pos rfl]
            trivial
        · have hnd : o.dst = none → False := fun h => absurd h (hdst i o hi hib hia his)
          refine wp_of_value (hquiet i o hi hib hia his b wx (fun a v hc h1 h2 => hG.keeps.cell hc (by rintro (e | e); exact h1 e; exact h2 e)) (fun hph => (hG.open_ (hcl.before hls hun hos hph rfl rfl)).cell hho) hdat hold) ⟨_, γ, rfl, ⟨hG.keeps, ?_, hG.after, ?_, ?_⟩, Go1.refl _ _ _, fun h => (hnd h).elim, ?_⟩
          · rw [hset ia (fun e => hia e.symm)]; exact hG.before
          · rw [hset is (fun e => his e.symm)]; exact hG.open_
          · rw [hset is (fun e => his e.symm)]; exact hG.shut
          · unfold VA
            rw [if_neg hib, if_neg hia, if_neg his]
  · intro listed γ b wx hall hR hG
    obtain ⟨gg, cap, hγ, hr'⟩ := hG.shut (hall is (hlast is os_ hos))
    obtain ⟨ho', hat⟩ := hG.after gg cap hγ
    exact hend _ _ gg cap hR.size (hR.ds.trans hds) (fun t ht => hR.old ht) ⟨hr', ho', hat, hG.keeps⟩


/-- Only new blocks. -/
structure Ext (H : Nat) (w w' : World) : Prop where
  size : w.heap.size ≤ w'.heap.size
  block : ∀ k, H ≤ k → k < w.heap.size → w'.heap[k]? = w.heap[k]?

theorem Ext.refl (H : Nat) (w : World) : Ext H w w := ⟨Nat.le_refl _, fun _ _ _ => rfl⟩
theorem Ext.alloc (H : Nat) (w : World) (o : Obj) : Ext H w (w.alloc o) := ⟨by simp, fun k _ h => Below.heap_alloc _ _ _ h⟩
theorem Ext.setCell (H : Nat) (w : World) (a : Addr) (v : Value) (h : a.block < H) : Ext H w (w.setCell a v) := ⟨by simp, fun k hk _ => Below.heap_setCell _ _ _ _ (by omega)⟩

open Any in
/-- THE LAW: each operation once, whatever came up before it. W: what each has left; G: what stands of the world, by what has been done. -/
theorem ops_law {Q : Exit → Act → World → Prop} {ops : Array Oper} {N rid : Nat} (f : Act) (w : World) (hp : Plain .any ops N = true) (hsz : f.tmps.size = N) (hds : f.defers = [])
    (W : Nat → Value → World → Prop) (G : (Nat → Bool) → World → Prop) (H : Nat)
    (hval : ∀ i v wx wx', Ext H wx wx' → W i v wx → W i v wx')
    (hG : G (fun _ => false) w.drew)
    (hstep : ∀ i o, ops[i]? = some o → ∀ (l : Nat → Bool) (b : Act) (wx : World), l i = false → (∀ j o', ops[j]? = some o' → ∀ e ∈ o'.after, e.on = i → Region.binds .any e = true → l j = false) →
      (∀ e ∈ o.after, Region.binds .any e = true → l e.on = true) → (∀ j d, l j = true → (ops[j]?).bind (·.dst) = some d → W j (b.tmps[d]?.getD undef) wx) →
      (∀ t, t ∉ ops.toList.filterMap (·.dst) → b.tmps[t]?.getD undef = f.tmps[t]?.getD undef) → G l wx →
      o.wp Yba.prog b wx (fun a' w' => ∃ v, a' = b.put o.dst v ∧ G (fun j => if j = i then true else l j) w' ∧ Ext H wx w' ∧ (o.dst = none → v = undef) ∧ W i v w') Q)
    (hend : ∀ (b : Act) (wx : World) (l : Nat → Bool), b.tmps.size = N → b.defers = [] → (∀ i, i < ops.size → l i = true) → (∀ j d, (ops[j]?).bind (·.dst) = some d → W j (b.tmps[d]?.getD undef) wx) →
      (∀ t, t ∉ ops.toList.filterMap (·.dst) → b.tmps[t]?.getD undef = f.tmps[t]?.getD undef) → G l wx → Q .normal b wx) :
    (Code.region rid ops true).wp Yba.prog Q f w := by
  have hlt : ∀ i o, ops[i]? = some o → i < ops.size := fun i o h => (Array.getElem?_eq_some_iff.1 h).1
  have ext : ∀ (listed : Array Bool) (i : Nat), i < listed.size → (fun j => if j = i then true else listed[j]? == some true) = fun j => (listed.setIfInBounds i true)[j]? == some true := fun listed i hi => by
    funext j
    by_cases e : j = i
    · subst e; rw [if_pos rfl, Array.getElem?_setIfInBounds_self_of_lt hi]; rfl
    · rw [if_neg e, Array.getElem?_setIfInBounds_ne (Ne.symm e)]
  refine wp_region_ops (Γ := Unit) (N := N) (by kernel_rfl) hp (fun i _ v wx => W i v wx) (fun listed _ wx => G (fun j => listed[j]? == some true) wx) (fun _ wx _ wx' => Ext H wx wx') () (fun i _ v wx _ wx' => hval i v wx wx') hsz ?_ ?_ ?_
  · have : (fun j : Nat => (Array.replicate ops.size false)[j]? == some true) = fun _ => false := by
      funext j
      rw [Array.getElem?_replicate]
      split <;> rfl
    rw [this]; exact hG
  · intro i o hi listed γ b wx hcl hls hun hpre hR hG
    have := hstep i o hi (fun j => listed[j]? == some true) b wx (by simp [hun]) (fun j o' hj e he hei hb => by
        have := hcl.before hls hun hj he hb hei
        simp [this]) (fun e he hb => by simp [hpre e he hb]) (fun j d hl hd => hR.at hd (by simpa using hl)) (fun t ht => hR.old ht) hG
    refine Oper.wp_mono (fun a' w' ⟨v, h1, h2, h3, h4, h5⟩ => ⟨v, (), h1, ?_, h3, h4, h5⟩) this
    rw [ext listed i (by rw [hls]; exact hlt i o hi)] at h2
    exact h2
  · intro listed γ b wx hall hR hG
    exact hend b wx _ hR.size (hR.ds.trans hds) (fun i hi => by simp [hall i hi]) (fun j d hd => by
      have hj : j < ops.size := by
        cases e : ops[j]? with
        | none => rw [e] at hd; cases hd
        | some o' => exact hlt j o' e
      exact hR.at hd (hall j hj)) (fun t ht => hR.old ht) hG
end Go.Proofs.Ybulkbnbu.Kn
