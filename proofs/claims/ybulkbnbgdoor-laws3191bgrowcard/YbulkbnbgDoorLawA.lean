/-
  The two laws: what stands between the calls.
-/
import Derived.Test.YbulkbnbgDoorGraph
namespace Go.Proofs.YbulkbnbgDoor.Pr
set_option linter.unusedSimpArgs false
open Go.ChangeShapes Go.WideShapes Go.ChangeAt Go.RowKit

theorem lit40 (b : Act) (g : Nat → Value) (hg : ∀ t, b.tmps[t]?.getD undef = g t) (hN : b.tmps.size = 40) (hd : b.defers = []) : b = { tmps := (g 0 :: g 1 :: g 2 :: g 3 :: g 4 :: g 5 :: g 6 :: g 7 :: g 8 :: g 9 :: g 10 :: g 11 :: g 12 :: g 13 :: g 14 :: g 15 :: g 16 :: g 17 :: g 18 :: g 19 :: g 20 :: g 21 :: g 22 :: g 23 :: g 24 :: g 25 :: g 26 :: g 27 :: g 28 :: g 29 :: g 30 :: g 31 :: g 32 :: g 33 :: g 34 :: g 35 :: g 36 :: g 37 :: g 38 :: g 39 :: []).toArray, defers := [] } := by
  obtain ⟨tm, df⟩ := b
  obtain rfl : df = [] := hd
  obtain rfl : (fun t => tm[t]?.getD undef) = g := funext hg
  exact congrArg (fun x => Act.mk x []) (tmps_eq hN)
theorem lit65 (b : Act) (g : Nat → Value) (hg : ∀ t, b.tmps[t]?.getD undef = g t) (hN : b.tmps.size = 65) (hd : b.defers = []) : b = { tmps := (g 0 :: g 1 :: g 2 :: g 3 :: g 4 :: g 5 :: g 6 :: g 7 :: g 8 :: g 9 :: g 10 :: g 11 :: g 12 :: g 13 :: g 14 :: g 15 :: g 16 :: g 17 :: g 18 :: g 19 :: g 20 :: g 21 :: g 22 :: g 23 :: g 24 :: g 25 :: g 26 :: g 27 :: g 28 :: g 29 :: g 30 :: g 31 :: g 32 :: g 33 :: g 34 :: g 35 :: g 36 :: g 37 :: g 38 :: g 39 :: g 40 :: g 41 :: g 42 :: g 43 :: g 44 :: g 45 :: g 46 :: g 47 :: g 48 :: g 49 :: g 50 :: g 51 :: g 52 :: g 53 :: g 54 :: g 55 :: g 56 :: g 57 :: g 58 :: g 59 :: g 60 :: g 61 :: g 62 :: g 63 :: g 64 :: []).toArray, defers := [] } := by
  obtain ⟨tm, df⟩ := b
  obtain rfl : df = [] := hd
  obtain rfl : (fun t => tm[t]?.getD undef) = g := funext hg
  exact congrArg (fun x => Act.mk x []) (tmps_eq hN)

def Ed (ps : List (Nat × Nat)) (x y : Nat) : Prop := (x, y) ∈ ps
theorem mem_adj {ps : List (Nat × Nat)} {u v : Nat} : v ∈ adjOf ps u ↔ (u, v) ∈ ps := by
  unfold adjOf
  simp only [List.mem_map, List.mem_filter, decide_eq_true_eq]
  constructor
  · rintro ⟨⟨a, b⟩, ⟨h1, h2⟩, h3⟩
    simp only at h2 h3
    subst h2; subst h3; exact h1
  · intro h; exact ⟨(u, v), ⟨h, rfl⟩, rfl⟩

theorem Fresh.inv {c : Cfg} {s : PS} (h : Fresh c s) (T : Nat → Nat → Prop) : Inv c T s := by
  have hR : ∀ a b, R c s.Mb a b = false := fun a b => by unfold R; rw [h.mb]; simp
  have hA : ∀ a b, R c s.Ma a b = false := fun a b => by unfold R; rw [h.ma]; simp
  refine ⟨?_, ?_, ?_, ?_, ?_, ?_, ?_, ?_, ?_, ?_⟩
  · rw [h.tr]; intro l hl; cases hl
  · rw [h.tr]; exact List.nodup_nil
  · intro a b _ _; rw [hR, h.tr]; simp
  · intro a b _ _; rw [hR, hA]
  · intro a k t _ _ _ hb; rw [h.ma] at hb; simp at hb
  · intro a k t _ _ _ hb; rw [h.mb] at hb; simp at hb
  · intro a b _ _ hr; rw [hR] at hr; cases hr
  · intro a b _ _ hr; rw [hR] at hr; cases hr
  · rw [h.head]; exact Nat.zero_le _
  · intro i j x y z hi; rw [h.head] at hi; omega
theorem Inv.weaken {c : Cfg} {T T' : Nat → Nat → Prop} {s : PS} (h : Inv c T s) (hT : ∀ x y, T x y → T' x y) : Inv c T' s :=
  ⟨h.lt, h.nodup, h.mem, h.sym, h.wa, h.wb, fun a b ha hb hr => hT _ _ (h.sound a b ha hb hr), h.anti, h.head, h.closed⟩

/-- How the search stands. -/
def Mode (c : Cfg) (ps : List (Nat × Nat)) (B : Nat) (A : Nat → Prop) (w : World) : Prop :=
  (∃ s, Live c (Tc (Ed ps)) s w ∧ ∀ k, own c s.tv.ownBlock k → B ≤ k ∧ ¬ A k) ∨ ((∃ x, Tc (Ed ps) x x) ∧ ∃ s, w.rowIs c.P 51 34 (pcell c s) ∧ s.broken = true)

/-- ALL THAT STANDS BETWEEN TWO CALLS. B: where the call's own blocks begin. -/
structure All (c : Cfg) (B : Nat) (gs ps : List (Nat × Nat)) (gB S : Nat) (sv : Nat → Value) (vu vv : Value) (w : World) : Prop where
  ok : c.Ok
  lg : Lg c.n gB S gs sv vu vv w
  tab : Tab w
  fixed : ∀ k, own c none k → B ≤ k ∧ ¬ adblk c.n gB S sv vu vv k ∧ k < w.heap.size
  ad : ∀ k, adblk c.n gB S sv vu vv k → B ≤ k
  mode : Mode c ps B (adblk c.n gB S sv vu vv) w
  b0 : 0 < B
  bw : B ≤ w.heap.size

theorem own_cases {c : Cfg} {tb : Option Nat} {k : Nat} (h : own c tb k) : own c none k ∨ tb = some k := by
  rcases h with h | h | h | h | h | h | h | h
  · exact Or.inl (by simp [own, h])
  · exact Or.inl (by simp [own, h])
  · exact Or.inl (by simp [own, h])
  · exact Or.inl (by simp [own, h])
  · exact Or.inl (by simp [own, h])
  · exact Or.inl (by simp [own, h])
  · exact Or.inl (by simp [own, h])
  · exact Or.inr h
theorem own_mono {c : Cfg} {tb : Option Nat} {k : Nat} (h : own c none k) : own c tb k := by
  rcases h with h | h | h | h | h | h | h | h
  all_goals first | cases h; done | simp [own, h]

/-- .. over the two logs' growth. -/
theorem All.arcs {c : Cfg} {B : Nat} {gs ps gs' : List (Nat × Nat)} {gB S : Nat} {sv sv' : Nat → Value} {vu vv vu' vv' : Value} {w w' : World} (h : All c B gs ps gB S sv vu vv w) (hL : Lg c.n gB S gs' sv' vu' vv' w') (hF : AdF c.n gB S sv vu vv w sv' vu' vv' w') : All c B gs' ps gB S sv' vu' vv' w' := by
  have hnew : ∀ k, k < w.heap.size → ¬ adblk c.n gB S sv vu vv k → ¬ adblk c.n gB S sv' vu' vv' k := fun k hk hn hk' => by
    rcases hF.2 k hk' with h1 | h1
    · exact hn h1
    · omega
  refine ⟨h.ok, hL, h.tab.keeps hF.1 (fun h0 => by have := h.ad 0 h0; have := h.b0; omega), fun k hk => ?_, fun k hk => ?_, ?_, h.b0, Nat.le_trans h.bw hF.1.size⟩
  · obtain ⟨h1, h2, h3⟩ := h.fixed k hk
    exact ⟨h1, hnew k h3 h2, Nat.lt_of_lt_of_le h3 hF.1.size⟩
  · rcases hF.2 k hk with h1 | h1
    · exact h.ad k h1
    · exact Nat.le_trans h.bw h1
  · rcases h.mode with ⟨s, hL', hs⟩ | ⟨hx, s, hp, hb⟩
    · refine Or.inl ⟨s, ⟨hL'.st.keeps hF.1 fun k hk => (hs k hk).2, hL'.inv, hL'.tab.keeps hF.1 (fun h0 => by have := h.ad 0 h0; have := h.b0; omega), hL'.pos, hL'.hd, hL'.ok⟩, fun k hk => ⟨(hs k hk).1, hnew k (hL'.st.own_lt k hk) (hs k hk).2⟩⟩
    · exact Or.inr ⟨hx, s, hp.of_block (hF.1.block c.P hp.lt ((h.fixed c.P (by simp [own])).2.1)), hb⟩

/-- .. over calls that keep all. -/
theorem All.keeps {c : Cfg} {B : Nat} {gs ps : List (Nat × Nat)} {gB S : Nat} {sv : Nat → Value} {vu vv : Value} {w w' : World} (h : All c B gs ps gB S sv vu vv w) (hK : Keeps (fun _ => False) w w') : All c B gs ps gB S sv vu vv w' := by
  refine ⟨h.ok, Ad.of_block h.lg fun k hk => hK.block k (h.lg.lt_size k hk) (fun h => h), h.tab.keeps hK (fun h => h), fun k hk => ?_, h.ad, ?_, h.b0, Nat.le_trans h.bw hK.size⟩
  · obtain ⟨h1, h2, h3⟩ := h.fixed k hk
    exact ⟨h1, h2, Nat.lt_of_lt_of_le h3 hK.size⟩
  · rcases h.mode with ⟨s, hL', hs⟩ | ⟨hx, s, hp, hb⟩
    · exact Or.inl ⟨s, ⟨hL'.st.keeps hK fun k hk h => h, hL'.inv, hL'.tab.keeps hK (fun h => h), hL'.pos, hL'.hd, hL'.ok⟩, hs⟩
    · exact Or.inr ⟨hx, s, hp.of_block (hK.block c.P hp.lt (fun h => h)), hb⟩

/-- What 'catchUp' is handed. -/
theorem All.catch {c : Cfg} {B : Nat} {gs ps : List (Nat × Nat)} {gB S : Nat} {sv : Nat → Value} {vu vv : Value} {w : World} (h : All c B gs ps gB S sv vu vv w) (hsub : ∀ p, p ∈ ps → p ∈ gs) :
    ∃ s0, CS c (Tc (Ed gs)) s0 w (fun _ _ => False) w ∧ ∀ k, own c s0.tv.ownBlock k → B ≤ k ∧ ¬ adblk c.n gB S sv vu vv k := by
  have hT : ∀ x y, Tc (Ed ps) x y → Tc (Ed gs) x y := fun x y => Tc.mono fun a b hab => hsub _ hab
  rcases h.mode with ⟨s, hL', hs⟩ | ⟨⟨x, hx⟩, s, hp, hb⟩
  · exact ⟨s, Or.inl ⟨s, ⟨hL'.st, hL'.inv.weaken hT, hL'.tab, hL'.pos, hL'.hd, hL'.ok⟩, Fr.refl _ _ _, fun _ _ h => h.elim⟩, hs⟩
  · exact ⟨{ s with tv := .slice none 0 0 }, Or.inr ⟨⟨x, hT x x hx⟩, ⟨s, hp, hb⟩, Keeps.refl _ _⟩, fun k hk => ⟨(h.fixed k hk).1, (h.fixed k hk).2.1⟩⟩

/-- .. and what it leaves. -/
theorem All.caught {c : Cfg} {B : Nat} {gs ps : List (Nat × Nat)} {gB S : Nat} {sv : Nat → Value} {vu vv : Value} {w w' : World} {s0 : PS} (h : All c B gs ps gB S sv vu vv w) (h0 : ∀ k, own c s0.tv.ownBlock k → B ≤ k ∧ ¬ adblk c.n gB S sv vu vv k)
    (hlt : ∀ p, p ∈ gs → p.1 < c.n ∧ p.2 < c.n) (hC : CS c (Tc (Ed gs)) s0 w (fun x y => x < c.n ∧ y ∈ adjOf gs x) w') : All c B gs gs gB S sv vu vv w' ∧ (∃ s, Good c gs s w') ∧ Keeps (own c s0.tv.ownBlock) w w' := by
  obtain ⟨_, _, hK⟩ := hC.p
  have hK0 : ∀ k, adblk c.n gB S sv vu vv k → w'.heap[k]? = w.heap[k]? := fun k hk => hK.block k (h.lg.lt_size k hk) (fun ho => (h0 k ho).2 hk)
  have htab : Tab w' := h.tab.keeps hK (fun ho => by have := (h0 0 ho).1; have := h.b0; omega)
  have hfix : ∀ k, own c none k → B ≤ k ∧ ¬ adblk c.n gB S sv vu vv k ∧ k < w'.heap.size := fun k hk => by
    obtain ⟨h1, h2, h3⟩ := h.fixed k hk
    exact ⟨h1, h2, Nat.lt_of_lt_of_le h3 hK.size⟩
  refine ⟨⟨h.ok, Ad.of_block h.lg hK0, htab, hfix, h.ad, ?_, h.b0, Nat.le_trans h.bw hK.size⟩, ?_, hK⟩
  · rcases hC with ⟨s, hL, hF, hR⟩ | ⟨hx, ⟨s, hp, hb⟩, _⟩
    · refine Or.inl ⟨s, hL, fun k hk => ?_⟩
      rcases own_cases hk with h1 | h1
      · exact ⟨(hfix k h1).1, (hfix k h1).2.1⟩
      · rcases hF.2 with e | ⟨g, e, hg⟩
        · exact h0 k (by rw [e] at h1; simp [own, h1])
        · rw [e] at h1
          obtain rfl : g = k := by simpa using h1
          exact ⟨Nat.le_trans h.bw hg, fun hk' => by have := h.lg.lt_size g hk'; omega⟩
    · exact Or.inr ⟨hx, s, hp, hb⟩
  · rcases hC with ⟨s, hL, hF, hR⟩ | ⟨hx, ⟨s, hp, hb⟩, _⟩
    · exact ⟨s, Or.inl ⟨hL, fun x y hxy => hR x y ⟨(hlt _ hxy).1, mem_adj.2 hxy⟩⟩⟩
    · exact ⟨s, Or.inr ⟨hp, hb, hx⟩⟩
end Go.Proofs.YbulkbnbgDoor.Pr
