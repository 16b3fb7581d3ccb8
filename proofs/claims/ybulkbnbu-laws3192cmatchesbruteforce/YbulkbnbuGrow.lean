/-
  slices.Grow over the call's own rows; math.Inf; the law of a drawn region with a ghost.
-/
import Derived.Test.YbulkbnbuOut
import Derived.Test.YbulkbnbuShelfA
import Derived.Laws.Externs
namespace Go.Proofs.Ybulkbnbu.Kn
set_option linter.unusedSimpArgs false
set_option linter.unusedVariables false
open Go.ChangeShapes Go.WideShapes Go.ChangeAt Go.RowKit
open Go.Proofs.Ybulkbnbu.Fl

open Go.Proofs.Ybulkbnbu.Any in
/-- THE LAW, with a ghost. -/
theorem ops_lawG {Γ : Type} {Q : Exit → Act → World → Prop} {ops : Array Oper} {N rid : Nat} (f : Act) (w : World) (hp : Plain .any ops N = true) (hsz : f.tmps.size = N) (hds : f.defers = [])
    (W : Nat → Γ → Value → World → Prop) (G : (Nat → Bool) → Γ → World → Prop) (Gr : Γ → World → Γ → World → Prop) (γ0 : Γ)
    (hval : ∀ i γ v wx γ' wx', Gr γ wx γ' wx' → W i γ v wx → W i γ' v wx')
    (hG : G (fun _ => false) γ0 w.drew)
    (hstep : ∀ i o, ops[i]? = some o → ∀ (l : Nat → Bool) (γ : Γ) (b : Act) (wx : World), l i = false → (∀ j o', ops[j]? = some o' → ∀ e ∈ o'.after, e.on = i → Region.binds .any e = true → l j = false) →
      (∀ e ∈ o.after, Region.binds .any e = true → l e.on = true) → (∀ j d, l j = true → (ops[j]?).bind (·.dst) = some d → W j γ (b.tmps[d]?.getD undef) wx) →
      (∀ t, t ∉ ops.toList.filterMap (·.dst) → b.tmps[t]?.getD undef = f.tmps[t]?.getD undef) → G l γ wx →
      o.wp Yba.prog b wx (fun a' w' => ∃ v γ', a' = b.put o.dst v ∧ G (fun j => if j = i then true else l j) γ' w' ∧ Gr γ wx γ' w' ∧ (o.dst = none → v = undef) ∧ W i γ' v w') Q)
    (hend : ∀ (b : Act) (wx : World) (l : Nat → Bool) (γ : Γ), b.tmps.size = N → b.defers = [] → (∀ i, i < ops.size → l i = true) → (∀ j d, (ops[j]?).bind (·.dst) = some d → W j γ (b.tmps[d]?.getD undef) wx) →
      (∀ t, t ∉ ops.toList.filterMap (·.dst) → b.tmps[t]?.getD undef = f.tmps[t]?.getD undef) → G l γ wx → Q .normal b wx) :
    (Code.region rid ops true).wp Yba.prog Q f w := by
  have hlt : ∀ i o, ops[i]? = some o → i < ops.size := fun i o h => (Array.getElem?_eq_some_iff.1 h).1
  have ext : ∀ (listed : Array Bool) (i : Nat), i < listed.size → (fun j => if j = i then true else listed[j]? == some true) = fun j => (listed.setIfInBounds i true)[j]? == some true := fun listed i hi => by
    funext j
    by_cases e : j = i
    · subst e; rw [if_pos rfl, Array.getElem?_setIfInBounds_self_of_lt hi]; rfl
    · rw [if_neg e, Array.getElem?_setIfInBounds_ne (Ne.symm e)]
  refine wp_region_ops (Γ := Γ) (N := N) (by kernel_rfl) hp W (fun listed γ wx => G (fun j => listed[j]? == some true) γ wx) Gr γ0 hval hsz ?_ ?_ ?_
  · have : (fun j : Nat => (Array.replicate ops.size false)[j]? == some true) = fun _ => false := by
      funext j
      rw [Array.getElem?_replicate]
      split <;> rfl
    rw [this]; exact hG
  · intro i o hi listed γ b wx hcl hls hun hpre hR hG
    have := hstep i o hi (fun j => listed[j]? == some true) γ b wx (by simp [hun]) (fun j o' hj e he hei hb => by
        have := hcl.before hls hun hj he hb hei
        simp [this]) (fun e he hb => by simp [hpre e he hb]) (fun j d hl hd => hR.at hd (by simpa using hl)) (fun t ht => hR.old ht) hG
    refine Oper.wp_mono (fun a' w' ⟨v, γ', h1, h2, h3, h4, h5⟩ => ⟨v, γ', h1, ?_, h3, h4, h5⟩) this
    rw [ext listed i (by rw [hls]; exact hlt i o hi)] at h2
    exact h2
  · intro listed γ b wx hall hR hG
    exact hend b wx _ γ hR.size (hR.ds.trans hds) (fun i hi => by simp [hall i hi]) (fun j d hd => by
      have hj : j < ops.size := by
        cases e : ops[j]? with
        | none => rw [e] at hd; cases hd
        | some o' => exact hlt j o' e
      exact hR.at hd (hall j hj)) (fun t ht => hR.old ht) hG

/-- Cut to nothing. -/
theorem own_cut {w : World} {B e n c : Nat} {a : Option Addr} {xs : List Value} (h : w.ownsRow B e 1 (.slice a n c) n xs) : w.ownsRow B e 1 (.slice a 0 c) 0 [] := by
  refine ⟨rfl, ?_⟩
  rcases h.2 with ⟨hv, _⟩ | ⟨g, cap, cur, hv, hg, hh, hn, hc, hs, ht⟩
  · left
    simp only [Value.slice.injEq] at hv
    obtain ⟨rfl, _, rfl⟩ := hv
    exact ⟨rfl, rfl⟩
  · right
    simp only [Value.slice.injEq] at hv
    obtain ⟨rfl, _, rfl⟩ := hv
    exact ⟨g, c, cur, rfl, hg, hh, Nat.zero_le _, hc, hs, by simp⟩

theorem size_zeroCells (z : Value) (k : Nat) (hz : z.cells = #[z]) : (Builtin.zeroCells z.cells k).size = k := by
  rw [hz]; simp [Builtin.zeroCells]

/-- slices.Grow over an owned row. -/
theorem grow_own {ρ : Go.Shelf.Ren} (Ly : Lays8.n4 Yba.prog ρ) (i0 : TypeInfo) (z : Value) (hi0 : Yba.prog.info? (ρ.t 25) = some i0) (hz0 : i0.zero = some z) (hz1 : i0.size = 1) (hz2 : i0.bytes = 8) (hz : z.cells = #[z])
    (B : Nat) (a : Option Addr) (l cap k : Nat) (xs : List Value) (w : World) (hown : w.ownsRow B (ρ.t 25) 1 (.slice a l cap) l xs) (hl : l ≤ 1000000) (hk0 : 0 < k) (hk : k ≤ 1000000) (hB : B ≤ w.heap.size) :
    Calls Yba.prog (ρ.f 4) #[.slice a l cap, .int .i64 (k : Int)] w fun e w' => ∃ g c, e = .returned (.slice (some ⟨g, 0, none⟩) l c) ∧ w'.ownsRow B (ρ.t 25) 1 (.slice (some ⟨g, 0, none⟩) l c) l xs ∧ l + k ≤ c ∧
      ((a = some ⟨g, 0, none⟩ ∧ w' = w) ∨ (g = w.heap.size ∧ ∃ o, w' = w.drew.alloc o)) := by
  have hlen : xs.length = l := by simpa using hown.1
  rcases hown.2 with ⟨hv, h0⟩ | ⟨g, cap', cur, hv, hg, hh, hn, hc, hs, ht⟩
  · simp only [Value.slice.injEq] at hv
    obtain ⟨rfl, rfl, rfl⟩ := hv
    have hx : xs = [] := List.eq_nil_of_length_eq_zero hlen
    subst hx
    refine (Any8.slices_Grow_grow Ly i0 z hi0 hz0 (by omega) none 0 0 k [] w (Nat.le_refl _) (by omega) (by rw [hz2]; omega) (by omega) (by simp) (fun _ => rfl) (fun a ha => by cases ha)).mono ?_
    rintro e w' ⟨rfl, rfl⟩
    have hge := grownCap_ge w (0 + k) 0 (ρ.t 25)
    have hle := grownCap_le_maxLen w (0 + k) 0 (ρ.t 25) (by unfold maxLen; omega)
    generalize grownCap w (0 + k) 0 (ρ.t 25) = G at *
    refine ⟨_, _, rfl, ⟨rfl, Or.inr ⟨_, _, _, rfl, hB, heap_alloc_new w.drew _, by omega, hle, ?_, by simp⟩⟩, hge, Or.inr ⟨rfl, _, rfl⟩⟩
    rw [Array.size_append, Array.size_append, size_zeroCells z _ hz, size_zeroCells z _ hz, List.size_toArray, List.length_nil]
    omega
  · simp only [Value.slice.injEq] at hv
    obtain ⟨rfl, _, rfl⟩ := hv
    by_cases hroom : l + k ≤ cap
    · refine (Any8.slices_Grow_room Ly (some ⟨g, 0, none⟩) l cap k w hn (by unfold maxLen at hc; omega) (by omega) hroom).mono ?_
      rintro e w' ⟨rfl, rfl⟩
      exact ⟨g, cap, rfl, hown, hroom, Or.inl ⟨rfl, rfl⟩⟩
    · refine (Any8.slices_Grow_grow Ly i0 z hi0 hz0 (by omega) (some ⟨g, 0, none⟩) l cap k cur.toList w hn (by omega) (by rw [hz2]; omega) (by omega) (by rw [hz1]; simpa using hs) (fun h => by cases h) (fun a ha j v hj => ?_)).mono ?_
      · obtain rfl : (⟨g, 0, none⟩ : Addr) = a := Option.some.inj ha
        exact World.news_of_block hh j v hj
      rintro e w' ⟨rfl, rfl⟩
      have hge := grownCap_ge w (l + k) cap (ρ.t 25)
      have hle := grownCap_le_maxLen w (l + k) cap (ρ.t 25) (by unfold maxLen; omega)
      generalize grownCap w (l + k) cap (ρ.t 25) = G at *
      refine ⟨_, _, rfl, ⟨hown.1, Or.inr ⟨_, _, _, rfl, hB, heap_alloc_new w.drew _, by omega, hle, ?_, ?_⟩⟩, hge, Or.inr ⟨rfl, _, rfl⟩⟩
      · rw [Array.size_append, Array.size_append, size_zeroCells z _ hz, size_zeroCells z _ hz]
        simp only [List.size_toArray, Array.length_toList]
        omega
      · rw [Array.toList_append, Array.toList_append, List.append_assoc, List.take_append_of_le_length (by simp at hs ⊢; omega)]
        exact ht
theorem growI (B : Nat) (a : Option Addr) (l cap k : Nat) (xs : List Value) (w : World) (hown : w.ownsRow B 3 1 (.slice a l cap) l xs) (hl : l ≤ 1000000) (hk0 : 0 < k) (hk : k ≤ 1000000) (hB : B ≤ w.heap.size) :
    Calls Yba.prog 43 #[.slice a l cap, .int .i64 (k : Int)] w fun e w' => ∃ g c, e = .returned (.slice (some ⟨g, 0, none⟩) l c) ∧ w'.ownsRow B 3 1 (.slice (some ⟨g, 0, none⟩) l c) l xs ∧ l + k ≤ c ∧
      ((a = some ⟨g, 0, none⟩ ∧ w' = w) ∨ (g = w.heap.size ∧ ∃ o, w' = w.drew.alloc o)) := by
  obtain ⟨i0, hi0, hz0, hz1, hz2⟩ := info_parts info3
  exact grow_own Yba.growI i0 _ hi0 hz0 hz1 hz2 rfl B a l cap k xs w hown hl hk0 hk hB
theorem growF (B : Nat) (a : Option Addr) (l cap k : Nat) (xs : List Value) (w : World) (hown : w.ownsRow B 26 1 (.slice a l cap) l xs) (hl : l ≤ 1000000) (hk0 : 0 < k) (hk : k ≤ 1000000) (hB : B ≤ w.heap.size) :
    Calls Yba.prog 44 #[.slice a l cap, .int .i64 (k : Int)] w fun e w' => ∃ g c, e = .returned (.slice (some ⟨g, 0, none⟩) l c) ∧ w'.ownsRow B 26 1 (.slice (some ⟨g, 0, none⟩) l c) l xs ∧ l + k ≤ c ∧
      ((a = some ⟨g, 0, none⟩ ∧ w' = w) ∨ (g = w.heap.size ∧ ∃ o, w' = w.drew.alloc o)) := by
  obtain ⟨i0, hi0, hz0, hz1, hz2⟩ := info_parts info26
  exact grow_own Yba.growF i0 _ hi0 hz0 hz1 hz2 rfl B a l cap k xs w hown hl hk0 hk hB

theorem bits_run (n : Int) (w : World) : (callFunc 69 #[.int .u64 n]).run Yba.prog w = .ok (.value (.float .f64 n.toNat)) w := by
  rw [run_callFunc_extern (fn := Yba.f69) (e := Extern.MathFloatBits.float64frombits) Yba.func69 (by kernel_rfl) (by kernel_rfl) (by kernel_rfl) (by kernel_rfl)]
  rfl
/-- math.Inf(-1): some float. -/
theorem inf_any (w : World) : Calls Yba.prog 42 #[.int .i64 (-1)] w fun e w' => (∃ b, e = .returned (.float .f64 b)) ∧ w' = w := by
  have hb := fun n w => bits_run n w
  go_enter Yba.func42, Yba.ntmps42
  go_wp2
  go_ret
  exact ⟨⟨_, rfl⟩, rfl⟩
end Go.Proofs.Ybulkbnbu.Kn
