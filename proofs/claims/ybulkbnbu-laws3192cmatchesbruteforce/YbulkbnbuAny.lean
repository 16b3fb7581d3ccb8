/-
  A region that draws its order, walked by an invariant: each operation once, whatever came up before it. For regions that make many blocks, whose orders cannot be gone through one by one.
-/
import Derived.Orders
import Derived.Laws.World
namespace Go.Proofs.Ybulkbnbu.Any
open Go

/-- What an operation has left in its temporary. -/
def slot (o : Oper) (a : Act) : Value := match o.dst with | some d => a.tmps.getD d undef | none => undef

section
variable {P : Program} {ops : Array Oper} {Q : Exit → Act → World → Prop} {md : Region.Mode} {Γ : Type}

/-- The closed facts of a region: no guard, no two operations write one temporary, each waits for earlier ones alone. -/
def Plain (md : Region.Mode) (ops : Array Oper) (N : Nat) : Bool :=
  ops.toList.all (fun o => o.guard.isNone && (match o.dst with | some d => decide (d < N) | none => true)) &&
  decide ((ops.toList.filterMap (·.dst)).Nodup) &&
  (List.range ops.size).all fun i => match ops[i]? with
    | some o => o.after.all fun e => !Region.binds md e || decide (e.on < i)
    | none => true

theorem plain_guard {N : Nat} (h : Plain md ops N = true) {i : Nat} {o : Oper} (hi : ops[i]? = some o) : o.guard = none ∧ ∀ d, o.dst = some d → d < N := by
  simp only [Plain, Bool.and_eq_true, List.all_eq_true] at h
  have := h.1.1 o (by rw [Array.mem_toList_iff]; exact Array.mem_of_getElem? hi)
  refine ⟨by simpa using this.1, fun d hd => ?_⟩
  have h2 := this.2
  rw [hd] at h2
  simpa using h2

theorem nodup_inj : ∀ (l : List Oper), (l.filterMap (·.dst)).Nodup → ∀ (i j : Nat) (o o' : Oper) (d : Tmp), l[i]? = some o → l[j]? = some o' → o.dst = some d → o'.dst = some d → i = j
  | [], _, i, j, o, o', d, hi, _, _, _ => by simp at hi
  | x :: l, h, i, j, o, o', d, hi, hj, hd, hd' => by
    have mem : ∀ (k : Nat) (q : Oper), l[k]? = some q → q.dst = some d → d ∈ l.filterMap (·.dst) := fun k q hk hq => List.mem_filterMap.2 ⟨q, List.mem_of_getElem? hk, hq⟩
    cases i with
    | zero =>
      cases j with
      | zero => rfl
      | succ j =>
        simp at hi hj
        subst hi
        rw [List.filterMap_cons_some hd] at h
        exact absurd (mem j o' hj hd') (List.nodup_cons.1 h).1
    | succ i =>
      cases j with
      | zero =>
        simp at hi hj
        subst hj
        rw [List.filterMap_cons_some hd'] at h
        exact absurd (mem i o hi hd) (List.nodup_cons.1 h).1
      | succ j =>
        simp at hi hj
        have h' : (l.filterMap (·.dst)).Nodup := by
          cases hx : x.dst with
          | none => rwa [List.filterMap_cons_none hx] at h
          | some y => rw [List.filterMap_cons_some hx] at h; exact (List.nodup_cons.1 h).2
        rw [nodup_inj l h' i j o o' d hi hj hd hd']

theorem plain_dst {N : Nat} (h : Plain md ops N = true) {i j : Nat} {o o' : Oper} {d : Tmp} (hi : ops[i]? = some o) (hj : ops[j]? = some o') (hd : o.dst = some d) (hd' : o'.dst = some d) : i = j := by
  simp only [Plain, Bool.and_eq_true, decide_eq_true_eq] at h
  exact nodup_inj ops.toList h.1.2 i j o o' d (by simpa using hi) (by simpa using hj) hd hd'

theorem plain_after {N : Nat} (h : Plain md ops N = true) {i : Nat} {o : Oper} (hi : ops[i]? = some o) {e : Edge} (he : e ∈ o.after) (hb : Region.binds md e = true) : e.on < i := by
  simp only [Plain, Bool.and_eq_true, List.all_eq_true] at h
  have hlt : i < ops.size := (Array.getElem?_eq_some_iff.1 hi).1
  have := h.2 i (by simpa using hlt)
  rw [hi] at this
  simp only [Array.all_eq_true_iff_forall_mem] at this
  have := this e he
  simpa [hb] using this

/-- All have come up where none is ready. -/
theorem all_listed {N : Nat} (h : Plain md ops N = true) (listed : Array Bool) (hr : Region.ready md ops listed = []) : ∀ i o, ops[i]? = some o → listed.getD i true = true := by
  intro i
  induction i using Nat.strongRecOn with
  | _ i ih =>
    intro o hi
    cases hl : listed.getD i true with
    | true => rfl
    | false =>
      exfalso
      have hm : i ∈ Region.ready md ops listed := by
        refine mem_ready.2 ⟨hl, o, hi, fun e he hb => ?_⟩
        have hlt := plain_after h hi he hb
        have hsz : e.on < ops.size := Nat.lt_trans hlt (Array.getElem?_eq_some_iff.1 hi).1
        have := ih e.on hlt _ (Array.getElem?_eq_getElem hsz)
        have hls : i < listed.size := by
          rcases Nat.lt_or_ge i listed.size with h' | h'
          · exact h'
          · simp [Array.getD, Nat.not_lt.2 h'] at hl
        have : e.on < listed.size := by omega
        simp_all [Array.getD]
      rw [hr] at hm
      cases hm

theorem countP_lt {α : Type} (p q : α → Bool) : ∀ (l : List α), (∀ x ∈ l, p x = true → q x = true) → (∃ x ∈ l, p x = false ∧ q x = true) → l.countP p < l.countP q
  | [], _, ⟨x, hx, _⟩ => by cases hx
  | y :: l, hpq, ⟨x, hx, h1, h2⟩ => by
    have hle : l.countP p ≤ l.countP q := List.countP_mono_left fun z hz => hpq z (List.mem_cons_of_mem _ hz)
    rcases List.mem_cons.1 hx with rfl | hx'
    · rw [List.countP_cons_of_neg (by simp [h1]), List.countP_cons_of_pos h2]
      omega
    · have := countP_lt p q l (fun z hz => hpq z (List.mem_cons_of_mem _ hz)) ⟨x, hx', h1, h2⟩
      by_cases hy : p y = true
      · rw [List.countP_cons_of_pos hy, List.countP_cons_of_pos (hpq y (List.mem_cons_self ..) hy)]
        omega
      · rw [List.countP_cons_of_neg hy]
        have : l.countP q ≤ (y :: l).countP q := by rw [List.countP_cons]; omega
        omega

def left (ops : Array Oper) (listed : Array Bool) : Nat := (List.range ops.size).countP fun i => !listed.getD i true

theorem left_set {listed : Array Bool} {i : Nat} (hi : i ∈ Region.ready md ops listed) : left ops (listed.setIfInBounds i true) < left ops listed := by
  obtain ⟨hl, o, ho, _⟩ := mem_ready.1 hi
  have hsz : i < ops.size := (Array.getElem?_eq_some_iff.1 ho).1
  refine countP_lt _ _ _ (fun x _ hx => ?_) ⟨i, by simpa using hsz, ?_, by simp [hl]⟩
  · by_cases e : i = x
    · subst e; simp [hl]
    · rw [getD_set_ne true e] at hx; exact hx
  · by_cases h : i < listed.size
    · simp [Array.getD, h]
    · simp [Array.getD, h]

theorem left_zero {listed : Array Bool} (h : left ops listed = 0) : Region.ready md ops listed = [] := by
  rcases hr : Region.ready md ops listed with _ | ⟨i, r⟩
  · rfl
  · have hi : i ∈ Region.ready md ops listed := by rw [hr]; exact List.mem_cons_self ..
    have := left_set hi
    omega

/-- Whatever has come up, so has all that it waited for. -/
def Closed (md : Region.Mode) (ops : Array Oper) (listed : Array Bool) : Prop :=
  ∀ (j : Nat) (o' : Oper), ops[j]? = some o' → listed[j]? = some true → ∀ e ∈ o'.after, Region.binds md e = true → listed[e.on]? = some true

/-- What stands while the region runs, but for its own invariant: the frame's other temporaries, the deferred calls, what each operation that has come up has left. -/
structure Runs (md : Region.Mode) (ops : Array Oper) (a0 : Act) (N : Nat) (val : Nat → Γ → Value → World → Prop) (listed : Array Bool) (γ : Γ) (a : Act) (w : World) : Prop where
  ds : a.defers = a0.defers
  size : a.tmps.size = N
  ext : ∀ t, t ∉ ops.toList.filterMap (·.dst) → a.tmps.getD t undef = a0.tmps.getD t undef
  vals : ∀ j o', ops[j]? = some o' → listed[j]? = some true → val j γ (slot o' a) w

theorem Runs.at {a0 : Act} {N : Nat} {val : Nat → Γ → Value → World → Prop} {listed : Array Bool} {γ : Γ} {a : Act} {w : World} (h : Runs md ops a0 N val listed γ a w) {j : Nat} {d : Tmp}
    (hd : (ops[j]?).bind (·.dst) = some d) (hl : listed[j]? = some true) : val j γ (a.tmps[d]?.getD undef) w := by
  cases hj : ops[j]? with
  | none => rw [hj] at hd; cases hd
  | some o =>
    have h1 := h.vals j o hj hl
    rw [hj] at hd
    have hd' : o.dst = some d := hd
    simpa [slot, hd'] using h1

theorem Runs.old {a0 : Act} {N : Nat} {val : Nat → Γ → Value → World → Prop} {listed : Array Bool} {γ : Γ} {a : Act} {w : World} (h : Runs md ops a0 N val listed γ a w) {t : Tmp}
    (ht : t ∉ ops.toList.filterMap (·.dst)) : a.tmps[t]?.getD undef = a0.tmps[t]?.getD undef := by
  simpa using h.ext t ht

/-- What waits for i has not come up while i has not. -/
theorem Closed.before {listed : Array Bool} (h : Closed md ops listed) (hs : listed.size = ops.size) {i j : Nat} (hi : listed[i]? = some false) {o : Oper} (hj : ops[j]? = some o) {e : Edge} (he : e ∈ o.after) (hb : Region.binds md e = true) (hon : e.on = i) : listed[j]? = some false := by
  have hlt : j < listed.size := by rw [hs]; exact (Array.getElem?_eq_some_iff.1 hj).1
  rw [Array.getElem?_eq_getElem hlt]
  cases hv : listed[j] with
  | false => rfl
  | true =>
    have := h j o hj (by rw [Array.getElem?_eq_getElem hlt, hv]) e he hb
    rw [hon, hi] at this
    cases this

/-- THE INVARIANT's LAW. 'val i γ v w': what operation i has left, v, in world w, with the ghost γ. 'G listed γ w': what holds of the world. 'Gr': how world and ghost may go on. -/
theorem wpAny_ops {N : Nat} (hp : Plain md ops N = true) (a0 : Act) (val : Nat → Γ → Value → World → Prop) (G : Array Bool → Γ → World → Prop) (Gr : Γ → World → Γ → World → Prop)
    (hval : ∀ i γ v w γ' w', Gr γ w γ' w' → val i γ v w → val i γ' v w')
    (hstep : ∀ (i : Nat) (o : Oper), ops[i]? = some o → ∀ (listed : Array Bool) γ (a : Act) w, Closed md ops listed → listed.size = ops.size → listed[i]? = some false →
      (∀ e ∈ o.after, Region.binds md e = true → listed[e.on]? = some true) → Runs md ops a0 N val listed γ a w → G listed γ w →
      o.wp P a w (fun a' w' => ∃ v γ', a' = a.put o.dst v ∧ G (listed.setIfInBounds i true) γ' w' ∧ Gr γ w γ' w' ∧ (o.dst = none → v = undef) ∧ val i γ' v w') Q)
    (hend : ∀ (listed : Array Bool) γ (a : Act) w, (∀ i, i < ops.size → listed[i]? = some true) → Runs md ops a0 N val listed γ a w → G listed γ w → Q .normal a w) :
    ∀ (fuel : Nat) (listed : Array Bool) (a : Act) (w : World) (γ : Γ), left ops listed ≤ fuel → Closed md ops listed → listed.size = ops.size → Runs md ops a0 N val listed γ a w → G listed γ w → wpAny P md ops Q fuel listed a w := by
  have hdone : ∀ (listed : Array Bool) (a : Act) (w : World) (γ : Γ), Runs md ops a0 N val listed γ a w → G listed γ w → listed.size = ops.size → Region.ready md ops listed = [] → Q .normal a w := by
    intro listed a w γ hR hG hs hr
    refine hend listed γ a w (fun i hi => ?_) hR hG
    have h1 := all_listed hp listed hr i _ (Array.getElem?_eq_getElem hi)
    have hlt : i < listed.size := by omega
    rw [Array.getElem?_eq_getElem hlt]
    simpa [Array.getD, hlt] using h1
  intro fuel
  induction fuel with
  | zero =>
    intro listed a w γ hf _ hs hR hG
    have hr := left_zero (md := md) (Nat.le_zero.1 hf)
    exact ⟨hr, hdone listed a w γ hR hG hs hr⟩
  | succ fuel ih =>
    intro listed a w γ hf hcl hs hR hG
    refine ⟨fun hr => hdone listed a w γ hR hG hs hr, fun i hi => ?_⟩
    obtain ⟨hl, o, ho, hafter⟩ := mem_ready.1 hi
    have hisz : i < ops.size := (Array.getElem?_eq_some_iff.1 ho).1
    have hlt : i < listed.size := by omega
    have hgd := plain_guard hp ho
    have hw : Region.wanted o (yielded ops a.tmps) = true := by simp [Region.wanted, hgd.1]
    have hun : listed[i]? = some false := by
      rw [Array.getElem?_eq_getElem hlt]
      simpa [Array.getD, hlt] using hl
    have haf : ∀ e ∈ o.after, Region.binds md e = true → listed[e.on]? = some true := by
      intro e he hb
      have h1 := hafter e he hb
      have hsz : e.on < listed.size := by have := plain_after hp ho he hb; omega
      rw [Array.getElem?_eq_getElem hsz]
      simpa [Array.getD, hsz] using h1
    unfold wpOp
    simp only [ho, hw, if_true]
    refine .inl (Oper.wp_mono ?_ (hstep i o ho listed γ a w hcl hs hun haf hR hG))
    rintro a' w' ⟨v, γ', rfl, hG', hgr, hnone, hvi⟩
    have hput : ∀ t, (∀ d, o.dst = some d → t ≠ d) → (a.put o.dst v).tmps.getD t undef = a.tmps.getD t undef := by
      intro t ht
      cases hdst : o.dst with
      | none => simp [Act.put]
      | some d =>
        have : d ≠ t := fun e => ht d hdst e.symm
        simp only [Act.put]
        simp [Array.getD_eq_getD_getElem?, Array.getElem?_setIfInBounds_ne this]
    have hcl' : Closed md ops (listed.setIfInBounds i true) := by
      intro j o' hj hjl e he hb
      have hmono : ∀ k : Nat, listed[k]? = some true → (listed.setIfInBounds i true)[k]? = some true := by
        intro k hk
        by_cases e : i = k
        · subst e; rw [hun] at hk; cases hk
        · rwa [Array.getElem?_setIfInBounds_ne e]
      by_cases hij : i = j
      · subst hij
        rw [ho] at hj
        obtain rfl := Option.some.inj hj
        exact hmono _ (haf e he hb)
      · rw [Array.getElem?_setIfInBounds_ne hij] at hjl
        exact hmono _ (hcl j o' hj hjl e he hb)
    refine ih (listed.setIfInBounds i true) _ w' γ' (by have := left_set hi; omega) hcl' (by simpa using hs) ⟨?_, ?_, ?_, ?_⟩ hG'
    · cases hdst : o.dst <;> simp [Act.put, hR.ds]
    · cases hdst : o.dst <;> simp [Act.put, hR.size]
    · intro t ht
      rw [hput t ?_]
      · exact hR.ext t ht
      · intro d hdst e
        exact ht (List.mem_filterMap.2 ⟨o, by rw [Array.mem_toList_iff]; exact Array.mem_of_getElem? ho, by rw [hdst, e]⟩)
    · intro j o' hj hjl
      by_cases hij : i = j
      · subst hij
        rw [ho] at hj
        obtain rfl := Option.some.inj hj
        have : slot o (a.put o.dst v) = v := by
          cases hdst : o.dst with
          | none => simp [slot, hdst, hnone hdst]
          | some d =>
            have := hgd.2 d hdst
            simp only [slot, hdst, Act.put]
            simp [Array.getD_eq_getD_getElem?, hR.size, this]
        rw [this]; exact hvi
      · rw [Array.getElem?_setIfInBounds_ne hij] at hjl
        have h0 := hval j γ _ w γ' w' hgr (hR.vals j o' hj hjl)
        have : slot o' (a.put o.dst v) = slot o' a := by
          cases hdst' : o'.dst with
          | none => simp [slot, hdst']
          | some d' =>
            simp only [slot, hdst']
            refine hput d' fun d hdst e => hij ?_
            subst e
            exact plain_dst hp ho hj hdst hdst'
        rw [this]; exact h0

/-- .. as a region's law. -/
theorem wp_region_ops {N : Nat} {id : Nat} {a : Act} {w : World} (hm : P.follows .mixedOrders = true) (hp : Plain .any ops N = true) (val : Nat → Γ → Value → World → Prop) (G : Array Bool → Γ → World → Prop) (Gr : Γ → World → Γ → World → Prop) (γ : Γ)
    (hval : ∀ i γ v w γ' w', Gr γ w γ' w' → val i γ v w → val i γ' v w')
    (hN : a.tmps.size = N) (hG : G (Array.replicate ops.size false) γ w.drew)
    (hstep : ∀ (i : Nat) (o : Oper), ops[i]? = some o → ∀ (listed : Array Bool) γ (b : Act) w, Closed .any ops listed → listed.size = ops.size → listed[i]? = some false →
      (∀ e ∈ o.after, Region.binds .any e = true → listed[e.on]? = some true) → Runs .any ops a N val listed γ b w → G listed γ w →
      o.wp P b w (fun a' w' => ∃ v γ', a' = b.put o.dst v ∧ G (listed.setIfInBounds i true) γ' w' ∧ Gr γ w γ' w' ∧ (o.dst = none → v = undef) ∧ val i γ' v w') Q)
    (hend : ∀ (listed : Array Bool) γ (b : Act) w, (∀ i, i < ops.size → listed[i]? = some true) → Runs .any ops a N val listed γ b w → G listed γ w → Q .normal b w) :
    (Code.region id ops true).wp P Q a w := by
  have hnot : ∀ i : Nat, (Array.replicate ops.size false)[i]? ≠ some true := by
    intro i h
    rw [Array.getElem?_replicate] at h
    split at h <;> simp at h
  refine wp_region_any hm (wpAny_ops hp a val G Gr hval hstep hend ops.size _ a _ γ ?_ ?_ (by simp) ⟨rfl, hN, fun _ _ => rfl, ?_⟩ hG)
  · unfold left
    have := List.countP_le_length (p := fun i => !(Array.replicate ops.size false).getD i true) (l := List.range ops.size)
    simpa using this
  · intro j o' _ h
    exact absurd h (hnot j)
  · intro j o' _ h
    exact absurd h (hnot j)
end
end Go.Proofs.Ybulkbnbu.Any
