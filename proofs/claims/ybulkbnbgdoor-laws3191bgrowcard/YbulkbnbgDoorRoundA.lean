/-
  'propagate' (function 12): one literal's consequences; the whole function.
-/
import Derived.Test.YbulkbnbgDoorRowsW
namespace Go.Proofs.YbulkbnbgDoor.Pr
set_option linter.unusedSimpArgs false
open Go.ChangeShapes Go.WideShapes Go.ChangeAt Go.RowKit

theorem pcell_head (c : Cfg) (s : PS) (h : Nat) (j : Nat) : (if j = 10 then .int .i64 (h : Int) else pcell c s j) = pcell c { s with head := h } j := by
  unfold pcell
  by_cases e : j = 10
  · subst e; simp
  · rw [if_neg e]; simp [e]
theorem pcell_work (c : Cfg) (s : PS) (x : Int) (j : Nat) : (if j = 31 then .int .i64 x else pcell c s j) = pcell c { s with work := x } j := by
  unfold pcell
  by_cases e : j = 31
  · subst e; simp
  · rw [if_neg e]; simp [e]

theorem St.setP {c : Cfg} {s s' : PS} {w : World} (h : St c s w) (j : Nat) (v : Value) (hp : ∀ i, (if i = j then v else pcell c s i) = pcell c s' i) (e1 : s'.Mb = s.Mb) (e2 : s'.Ma = s.Ma) (e3 : s'.tr = s.tr) (e4 : s'.tv = s.tv) (e5 : s'.cf = s.cf) (e6 : s'.atF = s.atF) (e7 : s'.rsF = s.rsF) :
    St c s' (w.setCell ⟨c.P, j, none⟩ v) := by
  have hne := h.ok.ne
  simp only [List.nodup_cons, List.mem_cons, List.not_mem_nil, or_false, not_or] at hne
  obtain ⟨⟨n1, n2, n3, n4, n5, n6⟩, -⟩ := hne
  have hblk : ∀ k, k ≠ c.P → (w.setCell ⟨c.P, j, none⟩ v).heap[k]? = w.heap[k]? := fun k hk => Below.heap_setCell _ _ _ _ hk
  have h1 : (w.setCell ⟨c.P, j, none⟩ v).rowIs c.P 51 34 (pcell c s') := (h.p.set j v).congr fun i _ => hp i
  have h2 : (w.setCell ⟨c.P, j, none⟩ v).rowIs c.Bf 58 (c.n * c.words) (fun j => .int .u64 (s'.Mb j : Int)) := by rw [e1]; exact h.b.of_block (hblk _ (Ne.symm n1))
  have h3 : (w.setCell ⟨c.P, j, none⟩ v).rowIs c.Af 58 (c.n * c.words) (fun j => .int .u64 (s'.Ma j : Int)) := by rw [e2]; exact h.a.of_block (hblk _ (Ne.symm n2))
  have h4 : (w.setCell ⟨c.P, j, none⟩ v).rowIs c.At 21 (c.n * c.n) s'.atF := by rw [e6]; exact h.t.of_block (hblk _ (Ne.symm n4))
  have h5 : (w.setCell ⟨c.P, j, none⟩ v).rowIs c.Rs 21 (c.n * c.n) s'.rsF := by rw [e7]; exact h.r.of_block (hblk _ (Ne.symm n5))
  have h6 : (w.setCell ⟨c.P, j, none⟩ v).ownsRow 0 21 1 s'.tv s'.tr.length (trailCells s'.tr) := by rw [e3, e4]; exact ownsRow_of_block h.tr fun g hg => hblk g (h.ne g hg).1
  have h7 : (w.setCell ⟨c.P, j, none⟩ v).rowIs c.Lv 21 (c.n * c.n) (fun _ => .int .i32 0) := h.l.of_block (hblk _ (Ne.symm n3))
  have h8 : (w.setCell ⟨c.P, j, none⟩ v).rowIs c.Ws 38 (c.n * c.n) (fun _ => .slice none 0 0) := h.ws.of_block (hblk _ (Ne.symm n6))
  have h9 : ∀ j, s'.Mb j < 18446744073709551616 := fun j => Eq.subst (motive := fun M : Nat → Nat => M j < 18446744073709551616) e1.symm (h.mb j)
  have h10 : ∀ j, s'.Ma j < 18446744073709551616 := fun j => Eq.subst (motive := fun M : Nat → Nat => M j < 18446744073709551616) e2.symm (h.ma j)
  have h11 : s'.cf = .slice none 0 0 := e5.trans h.cf
  have h12 : ∀ g, s'.tv.ownBlock = some g → g ≠ c.P ∧ g ≠ c.Bf ∧ g ≠ c.Af ∧ g ≠ c.Lv ∧ g ≠ c.At ∧ g ≠ c.Rs ∧ g ≠ c.Ws := by rw [e4]; exact h.ne
  exact St.mk h.ok h1 h2 h3 h7 h4 h5 h8 h9 h10 h6 h11 h12

/-- The trail's slice, where something lies on it. -/
theorem trail_shape {c : Cfg} {s : PS} {w : World} (h : St c s w) (hp : 0 < s.tr.length) : ∃ g cap, s.tv = .slice (some ⟨g, 0, none⟩) s.tr.length cap ∧ ∀ i l : Nat, s.tr[i]? = some l → w.cell? ⟨g, i, none⟩ = some (.int .i32 (l : Int)) := by
  rcases h.tr.2 with ⟨_, hx⟩ | ⟨g, cap, cur, hv, _⟩
  · omega
  · refine ⟨g, cap, hv, fun i l hl => ?_⟩
    have hi : i < s.tr.length := (List.getElem?_eq_some_iff.1 hl).1
    have ho := h.tr
    rw [hv] at ho
    rw [ho.cellAt i (by omega)]
    simp [trailCells, hl]
theorem trail_len {c : Cfg} {s : PS} {w : World} (h : St c s w) : ∃ ao cap, s.tv = .slice ao s.tr.length cap := by
  rcases h.tr.2 with ⟨hv, hx⟩ | ⟨g, cap, cur, hv, _⟩
  · exact ⟨none, 0, by rw [hv, hx]⟩
  · exact ⟨_, cap, hv⟩

/-- What stays of a search over 'propagate': as 'Ext', the head aside. -/
structure ExtB (c : Cfg) (s s' : PS) : Prop where
  mono : ∀ a b, b < c.n → R c s.Mb a b = true → R c s'.Mb a b = true
  tr : ∃ l, s'.tr = s.tr ++ l
  broken : s'.broken = s.broken
theorem ExtB.refl (c : Cfg) (s : PS) : ExtB c s s := ⟨fun _ _ _ h => h, ⟨[], by simp⟩, rfl⟩
theorem ExtB.trans {c : Cfg} {s s' s'' : PS} (h : ExtB c s s') (k : ExtB c s' s'') : ExtB c s s'' := by
  obtain ⟨l, hl⟩ := h.tr
  obtain ⟨m, hm⟩ := k.tr
  exact ⟨fun a b hb hr => k.mono a b hb (h.mono a b hb hr), ⟨l ++ m, by rw [hm, hl, List.append_assoc]⟩, k.broken.trans h.broken⟩

/-- THE SEARCH AT LEVEL 0, no conflict met. -/
structure Mn (c : Cfg) (T : Nat → Nat → Prop) (s0 : PS) (w0 : World) (s : PS) (w : World) : Prop where
  st : St c s w
  inv : Inv c T s
  tab : Tab w
  pos : Pos c s
  ext : ExtB c s0 s
  fr : Fr c s0 w0 s w

def F3 (c : Cfg) (f : Act) : Prop := f.tmps.size = 195 ∧ f.defers = [] ∧ f.tmps[0]?.getD undef = .pointer (some ⟨c.P, 0, none⟩) ∧ f.tmps[3]?.getD undef = .int .i64 (c.n : Int) ∧ f.tmps[4]?.getD undef = .int .i64 (c.words : Int)

/-- The round's start: the head moved on, the work counted. -/
theorem Pk.start {c : Cfg} {T : Nat → Nat → Prop} {s : PS} {w : World} (hS : St c s w) (hI : Inv c T s) (hTab : Tab w) (hPos : Pos c s) (x : Int) (k m : Nat) (w2 : World)
    (hw : w2 = ((w.drewN k).setCell ⟨c.P, 10, none⟩ (.int .i64 ((s.head : Int) + 1))).setCell ⟨c.P, 31, none⟩ (.int .i64 x)) :
    Pk c T s.head { s with head := s.head + 1, work := x } (w2.drewN m) { s with head := s.head + 1, work := x } (w2.drewN m) ∧ Keeps (own c s.tv.ownBlock) w (w2.drewN m) := by
  subst hw
  have hSt := ((hS.drewN k).setP (s' := { s with head := s.head + 1 }) 10 (.int .i64 ((s.head + 1 : Nat) : Int)) (pcell_head c s (s.head + 1)) rfl rfl rfl rfl rfl rfl rfl).setP (s' := { s with head := s.head + 1, work := x }) 31 (.int .i64 x) (pcell_work c { s with head := s.head + 1 } x) rfl rfl rfl rfl rfl rfl rfl
  have e : (((s.head + 1 : Nat) : Int)) = (s.head : Int) + 1 := by push_cast; rfl
  rw [e] at hSt
  have hK : Keeps (own c s.tv.ownBlock) w (((w.drewN k).setCell ⟨c.P, 10, none⟩ (.int .i64 ((s.head : Int) + 1))).setCell ⟨c.P, 31, none⟩ (.int .i64 x)) :=
    (((Keeps.refl _ _).drewN k).setCell (by simp [own]) _).setCell (by simp [own]) _
  exact ⟨⟨hSt.drewN m, ⟨hI.1, hI.2, hI.3, hI.4, hI.5, hI.6, hI.7, hI.8, hI.9, hI.10⟩, (hTab.keeps hK (fun h0 => hPos.own 0 h0 rfl)).keeps ((Keeps.refl (fun _ => False) _).drewN m) (fun h => h), ⟨hPos.1, hPos.2⟩, Ext.refl _ _, Fr.refl _ _ _⟩, hK.drewN m⟩

theorem Pk.rebase {c : Cfg} {T : Nat → Nat → Prop} {hd : Nat} {s1 s : PS} {w1 w : World} (h : Pk c T hd s1 w1 s w) : Pk c T hd s w s w := ⟨h.st, h.inv, h.tab, h.pos, Ext.refl _ _, Fr.refl _ _ _⟩

/-- The round's end. -/
theorem Mn.finish {c : Cfg} {T : Nat → Nat → Prop} {s s2 s3 : PS} {w wc w2 w3 w4 : World} {x : Int} {a b : Nat} (hI : Inv c T s) (ha : a < c.n) (hb : b < c.n) (hent : s.tr[s.head]? = some (a * c.n + b))
    (hK : Keeps (own c s.tv.ownBlock) w wc) (h1 : Pk c T s.head { s with head := s.head + 1, work := x } wc s2 w2) (hin : ∀ y, y < c.n → R c s.Mb y a = true → R c s2.Mb y b = true)
    (h2 : Pk c T s.head s2 w2 s3 w3) (hout : ∀ y, y < c.n → R c s2.Mb b y = true → R c s3.Mb a y = true) (hS : St c s3 w4) (hK4 : Keeps (own c s3.tv.ownBlock) w3 w4) :
    Mn c T s w s3 w4 ∧ s3.head = s.head + 1 := by
  have hhd : s3.head = s.head + 1 := h2.ext.head.trans h1.ext.head
  have hF : Fr c s w s3 w4 := ((Fr.trans (s1 := { s with head := s.head + 1, work := x }) (w1 := wc) ⟨hK, Or.inl rfl⟩ h1.fr).trans h2.fr).trans ⟨hK4, Or.inl rfl⟩
  have h3 := h2.go hS h2.inv (Ext.refl _ _) ⟨hK4, Or.inl rfl⟩
  have hx := h1.ext.trans h2.ext
  refine ⟨⟨hS, ?_, h3.tab, h3.pos, ⟨hx.mono, hx.tr, hx.broken⟩, hF⟩, hhd⟩
  exact hI.advance h2.inv ha hb hx.tr rfl hent (fun y hy h => h2.ext.mono _ _ hb (hin y hy h)) (fun z hz h => hout z hz (h1.ext.mono _ _ hz h)) rfl rfl rfl hhd
end Go.Proofs.YbulkbnbgDoor.Pr
