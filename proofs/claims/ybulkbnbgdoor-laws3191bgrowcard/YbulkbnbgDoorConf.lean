/-
  The walk of 'set' (function 11) where the literal's negation holds: the conflict is recorded, the answer is false.
-/
import Derived.Test.YbulkbnbgDoorExplain
namespace Go.Proofs.YbulkbnbgDoor.Pr
set_option linter.unusedSimpArgs false
open Go.ChangeShapes Go.WideShapes Go.ChangeAt Go.RowKit
open Any

theorem tmps_eq {tm : Array Value} {N : Nat} (h : tm.size = N) : tm = ((List.range N).map fun t => tm[t]?.getD undef).toArray := by
  apply Array.ext
  · simp [h]
  · intro i h1 h2
    simp [h1]

theorem lit133 (b : Act) (g : Nat → Value) (hg : ∀ t, b.tmps[t]?.getD undef = g t) (hN : b.tmps.size = 133) (hd : b.defers = []) : b = { tmps := (g 0 :: g 1 :: g 2 :: g 3 :: g 4 :: g 5 :: g 6 :: g 7 :: g 8 :: g 9 :: g 10 :: g 11 :: g 12 :: g 13 :: g 14 :: g 15 :: g 16 :: g 17 :: g 18 :: g 19 :: g 20 :: g 21 :: g 22 :: g 23 :: g 24 :: g 25 :: g 26 :: g 27 :: g 28 :: g 29 :: g 30 :: g 31 :: g 32 :: g 33 :: g 34 :: g 35 :: g 36 :: g 37 :: g 38 :: g 39 :: g 40 :: g 41 :: g 42 :: g 43 :: g 44 :: g 45 :: g 46 :: g 47 :: g 48 :: g 49 :: g 50 :: g 51 :: g 52 :: g 53 :: g 54 :: g 55 :: g 56 :: g 57 :: g 58 :: g 59 :: g 60 :: g 61 :: g 62 :: g 63 :: g 64 :: g 65 :: g 66 :: g 67 :: g 68 :: g 69 :: g 70 :: g 71 :: g 72 :: g 73 :: g 74 :: g 75 :: g 76 :: g 77 :: g 78 :: g 79 :: g 80 :: g 81 :: g 82 :: g 83 :: g 84 :: g 85 :: g 86 :: g 87 :: g 88 :: g 89 :: g 90 :: g 91 :: g 92 :: g 93 :: g 94 :: g 95 :: g 96 :: g 97 :: g 98 :: g 99 :: g 100 :: g 101 :: g 102 :: g 103 :: g 104 :: g 105 :: g 106 :: g 107 :: g 108 :: g 109 :: g 110 :: g 111 :: g 112 :: g 113 :: g 114 :: g 115 :: g 116 :: g 117 :: g 118 :: g 119 :: g 120 :: g 121 :: g 122 :: g 123 :: g 124 :: g 125 :: g 126 :: g 127 :: g 128 :: g 129 :: g 130 :: g 131 :: g 132 :: []).toArray, defers := [] } := by
  obtain ⟨tm, df⟩ := b
  obtain rfl : df = [] := hd
  obtain rfl : (fun t => tm[t]?.getD undef) = g := funext hg
  exact congrArg (fun x => Act.mk x []) (tmps_eq hN)

theorem wp_of_call {P : Program} {o : Oper} {a : Act} {w w1 : World} {f : FuncId} {args : Array Value} {K : Act → World → Prop} {Q : Exit → Act → World → Prop} (h : (execOp a.eval o).run P w = .ok (.enter f args) w1)
    (hC : Calls P f args w1 fun e w' => ∃ v, e = .returned v ∧ K (a.put o.dst v) w') : o.wp P a w K Q := by
  unfold Oper.wp; rw [h]
  refine Calls.mono hC fun e w' he => ?_
  obtain ⟨v, rfl, hk⟩ := he
  exact hk

theorem ownsRow_shape {w : World} {base e size n : Nat} {v : Value} {xs : List Value} (h : w.ownsRow base e size v n xs) : ∃ ao l cp, v = .slice ao l cp := by
  rcases h.2 with ⟨hv, _⟩ | ⟨g, cap, cur, hv, _⟩
  · exact ⟨none, 0, 0, hv⟩
  · exact ⟨_, _, _, hv⟩

def confVal (c : Cfg) (L k : Int) (B : Nat) (i : Nat) (γ : Option (Nat × Nat)) (v : Value) (w : World) : Prop :=
  match i with
  | 0 => v = .pointer (some ⟨c.P, 0, none⟩)
  | 1 => v = .pointer (some ⟨c.P, 0, none⟩)
  | 2 => v = .pointer (some ⟨c.P, 0, none⟩)
  | 3 => v = .pointer (some ⟨c.P, 18, none⟩)
  | 4 => v = .slice none 0 0
  | 5 => v = .slice none 0 0
  | 6 => v = .pointer (some ⟨c.P, 0, none⟩)
  | 7 => v = .int .i32 L
  | 8 => v = .int .i32 k
  | 9 => ∃ b, v = .slice (some ⟨b, 0, none⟩) 1 1 ∧ B ≤ b ∧ b < w.heap.size ∧ w.heap[b]? = some (.cells #[.int .i32 k] 21 (0, 0))
  | 10 => ∃ gg cap, γ = some (gg, cap) ∧ v = .slice (some ⟨gg, 0, none⟩) 1 cap
  | 11 => v = .pointer (some ⟨c.P, 0, none⟩)
  | 12 => v = .pointer (some ⟨c.P, 18, none⟩)
  | _ => True

theorem confVal_go (c : Cfg) (L k : Int) (B : Nat) : ∀ i γ v w γ' w', Go1 B γ w γ' w' → confVal c L k B i γ v w → confVal c L k B i γ' v w' := by
  intro i γ v w γ' w' hg h
  unfold confVal at *
  split at h <;> try exact h
  · obtain ⟨b, rfl, h1, h2, h3⟩ := h
    exact ⟨b, rfl, h1, Nat.lt_of_lt_of_le h2 hg.1, (hg.2.1 b h1 h2).trans h3⟩
  · obtain ⟨gg, cap, h1, h2⟩ := h
    exact ⟨gg, cap, hg.2.2 _ h1, h2⟩

/-- What holds while the conflict's statement runs. -/
def G4 (c : Cfg) (s : PS) (w : World) (X : Nat) (k : Int) (listed : Array Bool) (γ : Option (Nat × Nat)) (wx : World) : Prop :=
  wx.cell? ⟨X, 0, none⟩ = some (.pointer (some ⟨c.P, 0, none⟩)) ∧ Keeps (fun j => j = c.P) w wx ∧
      (listed[10]? = some false → γ = none) ∧
      (∀ gg cap, γ = some (gg, cap) → wx.ownsRow 0 21 1 (.slice (some ⟨gg, 0, none⟩) 1 cap) 1 [Value.int .i32 k] ∧ w.heap.size ≤ gg) ∧
      (listed[13]? = some false → wx.rowIs c.P 51 34 (pcell c s)) ∧
      (listed[13]? = some true → ∃ gg cap, γ = some (gg, cap) ∧ wx.rowIs c.P 51 34 (pcell c { s with cf := .slice (some ⟨gg, 0, none⟩) 1 cap }))

set_option maxRecDepth 100000 in
set_option maxHeartbeats 2000000 in
theorem set_conf (c : Cfg) (s : PS) (w : World) (hS : St c s w) (L r : Int) (a b : Nat) (hL : L = (a : Int) * (c.n : Int) + (b : Int)) (ha : a < c.n) (hb : b < c.n) (hr : r = -1 ∨ ∃ q : Nat, r = (q : Int) ∧ q < c.n) (h1 : R c s.Mb a b = false) (h2 : R c s.Mb b a = true) :
    Calls Ybad.prog 11 #[.pointer (some ⟨c.P, 0, none⟩), .int .i32 L, .int .i32 r] w fun e w' => e = .returned (.bool false) ∧ (∃ v, w'.rowIs c.P 51 34 (pcell c { s with cf := v })) ∧ Keeps (own c s.tv.ownBlock) w w' := by
  have HL : Hid (_) := hL
  clear hL
  obtain ⟨i0, hi0, hz0, hz1, hz2⟩ := info_parts info21
  have lP := hS.p.lt
  go_enter Ybad.func11, Ybad.ntmps11
  go_wp2_with fail
  refine (holds_any c hS.ok s _ (hS.p.alloc _) (hS.b.alloc _) hS.mb L a b HL.out ha hb).mono ?_
  rintro e w1 ⟨rfl, hq⟩
  have hS1 : St c s w1 := by obtain ⟨k, rfl⟩ := hq; exact (hS.alloc _).drewN k
  have hK1 : Keeps (fun j => j = c.P) w w1 := by obtain ⟨k, rfl⟩ := hq; exact ((Keeps.refl _ _).alloc _).drewN k
  have hX1 : w1.cell? ⟨w.heap.size, 0, none⟩ = some (.pointer (some ⟨c.P, 0, none⟩)) := by obtain ⟨k, rfl⟩ := hq; simp
  clear hq
  rw [h1]
  go_wp2_with fail
  refine (fails_any c hS1.ok s _ hS1.p hS1.b hS1.mb L a b HL.out ha hb).mono ?_
  rintro e w2 ⟨rfl, hq⟩
  have hS2 : St c s w2 := by obtain ⟨k, rfl⟩ := hq; exact hS1.drewN k
  have hK2 : Keeps (fun j => j = c.P) w w2 := by obtain ⟨k, rfl⟩ := hq; exact hK1.drewN k
  have hX2 : w2.cell? ⟨w.heap.size, 0, none⟩ = some (.pointer (some ⟨c.P, 0, none⟩)) := by obtain ⟨k, rfl⟩ := hq; simpa using hX1
  have lX : w.heap.size < w2.heap.size := by have := World.block_lt_of_cell? w2 _ hX2; simpa using this
  clear hq hS1 hK1 hX1
  rw [h2]
  generalize hXd : w.heap.size = X at *
  have hXP : X ≠ c.P := by omega
  go_wp2_with fail
  refine wp_region_ops (N := 133) (by kernel_rfl) (by kernel_rfl) (confVal c L ((b : Int) * (c.n : Int) + (a : Int)) w2.heap.size) (G4 c s w2 X ((b : Int) * (c.n : Int) + (a : Int)))
    (Go1 w2.heap.size) none (confVal_go c L _ w2.heap.size) rfl ⟨hX2, (Keeps.refl _ _).drew, fun _ => rfl, fun _ _ h => (by cases h), fun _ => hS2.p, fun h => (by simp at h)⟩ ?_ ?_
  · generalize hk : (b : Int) * (c.n : Int) + (a : Int) = k
    intro i o hi listed γ b wx hcl hls hun hpre hR hG
    obtain ⟨gX, gK, g10, gg10, g13, g13'⟩ := hG
    have hset : ∀ j : Nat, j ≠ i → (listed.setIfInBounds i true)[j]? = listed[j]? := fun j hj => Array.getElem?_setIfInBounds_ne (Ne.symm hj)
    have keep : i ≠ 10 ∧ i ≠ 13 → G4 c s w2 X k (listed.setIfInBounds i true) γ wx := fun h => ⟨gX, gK, by rw [hset 10 (Ne.symm h.1)]; exact g10, gg10, by rw [hset 13 (Ne.symm h.2)]; exact g13, by rw [hset 13 (Ne.symm h.2)]; exact g13'⟩
    match i, hi with
    | 0, hi =>
      simp only [List.getElem?_toArray, List.getElem?_cons_zero, List.getElem?_cons_succ, Option.some.injEq] at hi
      subst hi
      have e3 : b.tmps[3]?.getD undef = .pointer (some ⟨X, 0, none⟩) := hR.old (by decide)
      exact wp_of_value (v := .pointer (some ⟨c.P, 0, none⟩)) (w' := wx) (by go_simp) ⟨_, γ, rfl, keep (by omega), Go1.refl _ _ _, by simp, rfl⟩
    | 1, hi =>
      simp only [List.getElem?_toArray, List.getElem?_cons_zero, List.getElem?_cons_succ, Option.some.injEq] at hi
      subst hi
      have e3 : b.tmps[3]?.getD undef = .pointer (some ⟨X, 0, none⟩) := hR.old (by decide)
      exact wp_of_value (v := .pointer (some ⟨c.P, 0, none⟩)) (w' := wx) (by go_simp) ⟨_, γ, rfl, keep (by omega), Go1.refl _ _ _, by simp, rfl⟩
    | 2, hi =>
      simp only [List.getElem?_toArray, List.getElem?_cons_zero, List.getElem?_cons_succ, Option.some.injEq] at hi
      subst hi
      have e16 : b.tmps[16]?.getD undef = .pointer (some ⟨c.P, 0, none⟩) := hR.at (j := 1) rfl (hpre ⟨1, .data⟩ (by simp) rfl)
      exact wp_of_value (v := .pointer (some ⟨c.P, 0, none⟩)) (w' := wx) (by go_simp) ⟨_, γ, rfl, keep (by omega), Go1.refl _ _ _, by simp, rfl⟩
    | 3, hi =>
      simp only [List.getElem?_toArray, List.getElem?_cons_zero, List.getElem?_cons_succ, Option.some.injEq] at hi
      subst hi
      have e17 : b.tmps[17]?.getD undef = .pointer (some ⟨c.P, 0, none⟩) := hR.at (j := 2) rfl (hpre ⟨2, .data⟩ (by simp) rfl)
      exact wp_of_value (v := .pointer (some ⟨c.P, 18, none⟩)) (w' := wx) (by go_simp) ⟨_, γ, rfl, keep (by omega), Go1.refl _ _ _, by simp, rfl⟩
    | 4, hi =>
      simp only [List.getElem?_toArray, List.getElem?_cons_zero, List.getElem?_cons_succ, Option.some.injEq] at hi
      subst hi
      have e18 : b.tmps[18]?.getD undef = .pointer (some ⟨c.P, 18, none⟩) := hR.at (j := 3) rfl (hpre ⟨3, .data⟩ (by simp) rfl)
      have h13 := hcl.before hls hun (j := 13) rfl (e := ⟨4, .phase⟩) (by simp) rfl rfl
      have h18 := pc18 (g13 h13)
      rw [hS2.cf] at h18
      exact wp_of_value (v := .slice none 0 0) (w' := wx) (by go_simp) ⟨_, γ, rfl, keep (by omega), Go1.refl _ _ _, by simp, rfl⟩
    | 5, hi =>
      simp only [List.getElem?_toArray, List.getElem?_cons_zero, List.getElem?_cons_succ, Option.some.injEq] at hi
      subst hi
      have e19 : b.tmps[19]?.getD undef = .slice none 0 0 := hR.at (j := 4) rfl (hpre ⟨4, .data⟩ (by simp) rfl)
      exact wp_of_value (v := .slice none 0 0) (w' := wx) (by go_simp) ⟨_, γ, rfl, keep (by omega), Go1.refl _ _ _, by simp, rfl⟩
    | 6, hi =>
      simp only [List.getElem?_toArray, List.getElem?_cons_zero, List.getElem?_cons_succ, Option.some.injEq] at hi
      subst hi
      have e3 : b.tmps[3]?.getD undef = .pointer (some ⟨X, 0, none⟩) := hR.old (by decide)
      exact wp_of_value (v := .pointer (some ⟨c.P, 0, none⟩)) (w' := wx) (by go_simp) ⟨_, γ, rfl, keep (by omega), Go1.refl _ _ _, by simp, rfl⟩
    | 7, hi =>
      simp only [List.getElem?_toArray, List.getElem?_cons_zero, List.getElem?_cons_succ, Option.some.injEq] at hi
      subst hi
      have e1 : b.tmps[1]?.getD undef = .int .i32 L := hR.old (by decide)
      exact wp_of_value (v := .int .i32 L) (w' := wx) (by go_simp) ⟨_, γ, rfl, keep (by omega), Go1.refl _ _ _, by simp, rfl⟩
    | 8, hi =>
      simp only [List.getElem?_toArray, List.getElem?_cons_zero, List.getElem?_cons_succ, Option.some.injEq] at hi
      subst hi
      have e21 : b.tmps[21]?.getD undef = .pointer (some ⟨c.P, 0, none⟩) := hR.at (j := 6) rfl (hpre ⟨6, .data⟩ (by simp) rfl)
      have e22 : b.tmps[22]?.getD undef = .int .i32 L := hR.at (j := 7) rfl (hpre ⟨7, .data⟩ (by simp) rfl)
      have h13 := hcl.before hls hun (j := 13) rfl (e := ⟨8, .phase⟩) (by simp) rfl rfl
      refine wp_of_call (f := 21) (args := #[.pointer (some ⟨c.P, 0, none⟩), .int .i32 L]) (w1 := wx) (by go_simp) ?_
      refine (neg_any c hS2.ok s wx (g13 h13) L a _ HL.out ha hb).mono ?_
      rintro e w' ⟨rfl, q, rfl⟩
      refine ⟨_, rfl, _, γ, rfl, ?_, ⟨Nat.le_refl _, fun _ _ _ => rfl, fun _ h => h⟩, by simp, congrArg (Value.int .i32) hk⟩
      have := keep (by omega)
      exact ⟨this.1, this.2.1.drewN q, this.2.2.1, this.2.2.2.1, this.2.2.2.2.1, this.2.2.2.2.2⟩
    | 9, hi =>
      simp only [List.getElem?_toArray, List.getElem?_cons_zero, List.getElem?_cons_succ, Option.some.injEq] at hi
      subst hi
      have e23 : b.tmps[23]?.getD undef = .int .i32 k := hR.at (j := 8) rfl (hpre ⟨8, .data⟩ (by simp) rfl)
      have hK := gK.size
      refine wp_of_value (v := .slice (some ⟨wx.heap.size, 0, none⟩) 1 1) (w' := wx.alloc (.cells #[.int .i32 k] 21)) (by go_simp) ⟨_, γ, rfl, ⟨?_, gK.alloc _, ?_, ?_, ?_, ?_⟩, ⟨by simp, fun b' _ h => Below.heap_alloc _ _ _ h, fun _ h => h⟩, by simp, ⟨wx.heap.size, rfl, hK, by simp, heap_alloc_new wx _⟩⟩
      · rw [World.cell?_of_block (w := wx) (Below.heap_alloc _ _ _ (show X < wx.heap.size by omega))]; exact gX
      · rw [hset 10 (by omega)]; exact g10
      · exact fun gg cap h => ⟨(gg10 gg cap h).1.alloc _, (gg10 gg cap h).2⟩
      · rw [hset 13 (by omega)]; exact fun h => (g13 h).alloc _
      · rw [hset 13 (by omega)]; intro h; obtain ⟨gg, cap, h1, h2⟩ := g13' h; exact ⟨gg, cap, h1, h2.alloc _⟩
    | 10, hi =>
      simp only [List.getElem?_toArray, List.getElem?_cons_zero, List.getElem?_cons_succ, Option.some.injEq] at hi
      subst hi
      have e20 : b.tmps[20]?.getD undef = .slice none 0 0 := hR.at (j := 5) rfl (hpre ⟨5, .data⟩ (by simp) rfl)
      obtain ⟨bb, e24, hb1, hb2, hb3⟩ : ∃ bb, b.tmps[24]?.getD undef = .slice (some ⟨bb, 0, none⟩) 1 1 ∧ w2.heap.size ≤ bb ∧ bb < wx.heap.size ∧ wx.heap[bb]? = some (.cells #[.int .i32 k] 21 (0, 0)) := hR.at (j := 9) rfl (hpre ⟨9, .data⟩ (by simp) rfl)
      have h13 := hcl.before hls hun (j := 13) rfl (e := ⟨10, .data⟩) (by simp) rfl rfl
      have hγ := g10 hun
      have hK := gK.size
      refine wp_append_lies wx (.tmp 20) (.tmp 24) 38 rfl 0 21 i0 _ 1 4 Ybad.underlying38 hi0 hz0 hz1 hz2 rfl (by omega) (.slice none 0 0) 0 [] (by simpa [Act.eval] using e20) (World.ownsRow_nil _ _ _ _) ⟨bb, 0, none⟩ 1 1 [.int .i32 k] (by simpa [Act.eval] using e24) rfl (World.news_of_block hb3) (by simp [Value.oneCell']) (by omega) (by unfold maxLen; omega) (by omega) (by omega) wx.heap.size rfl ?_
      intro gg cap w1 hown1 hgrow hat hlt
      simp only [Nat.zero_add, List.nil_append] at hown1
      have hat' : gg = wx.heap.size := by
        rcases hat with h | h
        · cases h
        · exact h
      refine ⟨_, some (gg, cap), rfl, ⟨?_, gK.grown hgrow (fun j hj _ => by cases hj), ?_, ?_, ?_, ?_⟩, ⟨hgrow.size, fun j h1 h2 => hgrow.block j h2 (fun e => by cases e), fun q h => ?_⟩, by simp, ⟨gg, cap, rfl, by simp⟩⟩
      · rw [World.cell?_of_block (hgrow.block X (by omega) (fun e => by cases e))]; exact gX
      · intro h
        rw [Array.getElem?_setIfInBounds_self_of_lt (by rw [hls]; decide)] at h
        cases h
      · intro gg' cap' h
        obtain ⟨rfl, rfl⟩ : gg = gg' ∧ cap = cap' := by simpa using h
        exact ⟨hown1, by omega⟩
      · intro _; exact (g13 h13).of_block (hgrow.block c.P (g13 h13).lt (fun e => by cases e))
      · rw [hset 13 (by omega), h13]; intro h; cases h
      · rw [hγ] at h; cases h
    | 11, hi =>
      simp only [List.getElem?_toArray, List.getElem?_cons_zero, List.getElem?_cons_succ, Option.some.injEq] at hi
      subst hi
      have e15 : b.tmps[15]?.getD undef = .pointer (some ⟨c.P, 0, none⟩) := hR.at (j := 0) rfl (hpre ⟨0, .data⟩ (by simp) rfl)
      exact wp_of_value (v := .pointer (some ⟨c.P, 0, none⟩)) (w' := wx) (by go_simp) ⟨_, γ, rfl, keep (by omega), Go1.refl _ _ _, by simp, rfl⟩
    | 12, hi =>
      simp only [List.getElem?_toArray, List.getElem?_cons_zero, List.getElem?_cons_succ, Option.some.injEq] at hi
      subst hi
      have e26 : b.tmps[26]?.getD undef = .pointer (some ⟨c.P, 0, none⟩) := hR.at (j := 11) rfl (hpre ⟨11, .data⟩ (by simp) rfl)
      exact wp_of_value (v := .pointer (some ⟨c.P, 18, none⟩)) (w' := wx) (by go_simp) ⟨_, γ, rfl, keep (by omega), Go1.refl _ _ _, by simp, rfl⟩
    | 13, hi =>
      simp only [List.getElem?_toArray, List.getElem?_cons_zero, List.getElem?_cons_succ, Option.some.injEq] at hi
      subst hi
      have e27 : b.tmps[27]?.getD undef = .pointer (some ⟨c.P, 18, none⟩) := hR.at (j := 12) rfl (hpre ⟨12, .data⟩ (by simp) rfl)
      obtain ⟨gg, cap, hγ, e25⟩ : ∃ gg cap, γ = some (gg, cap) ∧ b.tmps[25]?.getD undef = .slice (some ⟨gg, 0, none⟩) 1 cap := hR.at (j := 10) rfl (hpre ⟨10, .data⟩ (by simp) rfl)
      have hP' := g13 hun
      have h18 := pc18 hP'
      have hf := hP'.frozen 18
      obtain ⟨ho, hat⟩ := gg10 gg cap hγ
      have lP2 := hS2.p.lt
      have hne : gg ≠ c.P := by omega
      have h10 : listed[10]? = some true := hpre ⟨10, .data⟩ (by simp) rfl
      refine wp_of_skip (w' := wx.setCell ⟨c.P, 18, none⟩ (.slice (some ⟨gg, 0, none⟩) 1 cap)) (by go_simp) ⟨_, γ, rfl, ⟨?_, gK.setCell (fun _ => rfl) _, ?_, ?_, ?_, ?_⟩, ⟨by simp, fun j h1 _ => Below.heap_setCell _ _ _ _ (by simp; omega), fun _ h => h⟩, by simp, trivial⟩
      · rw [World.cell?_of_block (w := wx) (Below.heap_setCell _ _ _ _ (by simpa using hXP))]; exact gX
      · rw [hset 10 (by omega), h10]; intro h; cases h
      · intro gg' cap' h
        rw [hγ] at h
        obtain ⟨rfl, rfl⟩ : gg = gg' ∧ cap = cap' := by simpa using h
        exact ⟨ownsRow_of_block ho (fun j hj => Below.heap_setCell _ _ _ _ (by simp [Value.ownBlock] at hj; subst hj; simpa using hne)), hat⟩
      · intro h
        rw [Array.getElem?_setIfInBounds_self_of_lt (by rw [hls]; decide)] at h
        cases h
      · intro _
        exact ⟨gg, cap, hγ, (hP'.set 18 _).congr (fun j _ => pcell_cf c s _ j)⟩
    | n + 14, hi => simp at hi
  · intro listed γ b wx hall hR hG
    obtain ⟨gX, gK, g10, gg10, g13, g13'⟩ := hG
    obtain ⟨gg, cap, hγ, hrow⟩ := g13' (hall 13 (by decide))
    obtain ⟨ho, hat⟩ := gg10 gg cap hγ
    have e1 : b.tmps[1]?.getD undef = .int .i32 L := hR.old (by decide)
    have e2 : b.tmps[2]?.getD undef = .int .i32 r := hR.old (by decide)
    have e3 : b.tmps[3]?.getD undef = .pointer (some ⟨X, 0, none⟩) := hR.old (by decide)
    have hds := hR.ds
    have hsz := hR.size
    clear hR
    obtain ⟨g, hg⟩ : ∃ g : Nat → Value, ∀ t, b.tmps[t]?.getD undef = g t := ⟨_, fun _ => rfl⟩
    rw [hg] at e1 e2 e3
    rw [lit133 b g hg hsz hds, e1, e2, e3]
    clear hg e1 e2 e3 hsz hds g10 gg10 g13 g13' hγ
    have lX2 : X < wx.heap.size := by have := gK.size; omega
    have hP8 := pc8 hrow
    obtain ⟨ao, l, cp, htv⟩ := ownsRow_shape hS2.tr
    have hgX : gg ≠ X := by omega
    have lP2 := hS2.p.lt
    have hgP : gg ≠ c.P := by omega
    rw [htv] at hP8
    have hgl : gg < wx.heap.size := ownsRow_lt ho gg rfl
    go_wp2_with fail
    rcases hr with rfl | ⟨q, rfl, hq⟩
    · go_region_held3 (fun w' => w'.cell? ⟨X, 0, none⟩ = some (.pointer (some ⟨c.P, 0, none⟩)) ∧ w'.cell? ⟨c.P, 8, none⟩ = some (.slice ao l cp))
        (first
          | go_keep
          | (go_split_ands
             refine ⟨?_, ?_⟩
             · (rw [World.cell?_of_block (hKe.block X (by simpa using lX2) (fun h => h))]; assumption)
             · (rw [World.cell?_of_block (hKe.block c.P (by simp; omega) (fun h => h))]; assumption)))
        ((go_at_call 22; refine (explain_none c _ _ L _ _ (World.rowIs.drew hrow) hS.ok.n80).mono ?_; rintro e we ⟨rfl, hPe, hKe⟩))
      go_wp2_with fail
      go_ret
      refine ⟨rfl, ⟨_, hPe⟩, ?_⟩
      refine ((hK2.trans gK (fun _ _ h => h)).drew.trans hKe (fun _ _ h => h.elim)).mono (fun j _ h => Or.inl h)
    · go_region_held3 (fun w' => w'.cell? ⟨X, 0, none⟩ = some (.pointer (some ⟨c.P, 0, none⟩)) ∧ w'.cell? ⟨c.P, 8, none⟩ = some (.slice ao l cp))
        (first
          | go_keep
          | (go_split_ands
             refine ⟨?_, ?_⟩
             · (rw [World.cell?_of_block (hKe.block X (by simpa using lX2) (fun h => by rcases h with h | h; exact hXP h; exact hgX (by simpa [Value.ownBlock] using h)))]; assumption)
             · (rw [pc8 hPe, ← htv])))
        ((go_at_call 22; refine (explain_node c _ _ X L _ a _ q 1 _ (by simpa using gX) (World.rowIs.drew hrow) hS.ok.n80 HL.out ha hb hq (by exact ho) (by omega) (by simp [Value.ownBlock]; exact hgP) (by simp [Value.ownBlock]; exact hgX) hXP).mono ?_; rintro e we ⟨rfl, ⟨ve, hPe⟩, hKe⟩))
      go_wp2_with fail
      go_ret
      refine ⟨rfl, ⟨_, hPe⟩, ?_⟩
      have hw2 := hK2.size
      refine ((hK2.trans gK (fun _ _ h => h)).drew.trans hKe (fun j hj h => ?_)).mono (fun j _ h => Or.inl h)
      rcases h with h | h
      · exact h
      · have : gg = j := by simpa [Value.ownBlock] using h
        omega
end Go.Proofs.YbulkbnbgDoor.Pr
