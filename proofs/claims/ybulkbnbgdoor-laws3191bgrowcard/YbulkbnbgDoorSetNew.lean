/-
  The walk of 'set' (function 11) where the literal holds already, and where neither it nor its negation does.
-/
import Derived.Test.YbulkbnbgDoorConf
namespace Go.Proofs.YbulkbnbgDoor.Pr
set_option linter.unusedSimpArgs false
open Go.ChangeShapes Go.WideShapes Go.ChangeAt Go.RowKit
open Any

set_option maxHeartbeats 400000 in
theorem set_held (c : Cfg) (s : PS) (w : World) (hS : St c s w) (L r : Int) (a b : Nat) (hL : L = (a : Int) * (c.n : Int) + (b : Int)) (ha : a < c.n) (hb : b < c.n) (h1 : R c s.Mb a b = true) :
    Calls Ybad.prog 11 #[.pointer (some ⟨c.P, 0, none⟩), .int .i32 L, .int .i32 r] w fun e w' => e = .returned (.bool true) ∧ St c s w' ∧ Keeps (own c s.tv.ownBlock) w w' := by
  have HL : Hid (_) := hL
  clear hL
  go_enter Ybad.func11, Ybad.ntmps11
  go_wp2_with fail
  refine (holds_any c hS.ok s _ (hS.p.alloc _) (hS.b.alloc _) hS.mb L a b HL.out ha hb).mono ?_
  rintro e w1 ⟨rfl, hq⟩
  have hS1 : St c s w1 := by obtain ⟨k, rfl⟩ := hq; exact (hS.alloc _).drewN k
  have hK1 : Keeps (own c s.tv.ownBlock) w w1 := by obtain ⟨k, rfl⟩ := hq; exact ((Keeps.refl _ _).alloc _).drewN k
  clear hq
  rw [h1]
  go_wp2_with fail
  go_ret
  exact ⟨rfl, hS1, hK1⟩

/-- Bit (a, b) set in a matrix of words. -/
def setM (c : Cfg) (M : Nat → Nat) (a b : Nat) (j : Nat) : Nat := if j = at_ c a b then M j ||| 2 ^ (b % 64) else M j

theorem setM_lt {c : Cfg} {M : Nat → Nat} {a b : Nat} (h : ∀ j, M j < 18446744073709551616) (j : Nat) : setM c M a b j < 18446744073709551616 := by
  unfold setM
  split
  · exact or_lt _ _ (h j) (Nat.mod_lt _ (by omega))
  · exact h j

theorem St.setB {c : Cfg} {s : PS} {w : World} (h : St c s w) (a b : Nat) : St c { s with Mb := setM c s.Mb a b } (w.setCell ⟨c.Bf, at_ c a b, none⟩ (.int .u64 ((s.Mb (at_ c a b) ||| 2 ^ (b % 64) : Nat) : Int))) := by
  have hne := h.ok.ne
  simp at hne
  refine ⟨h.ok, h.p.setOther (by simp; omega) _, ?_, h.a.setOther (by simp; omega) _, h.l.setOther (by simp; omega) _, h.t.setOther (by simp; omega) _, h.r.setOther (by simp; omega) _, h.ws.setOther (by simp; omega) _, setM_lt h.mb, h.ma, ?_, h.cf, h.ne⟩
  · refine (h.b.set _ _).congr fun j _ => ?_
    unfold setM
    by_cases e : j = at_ c a b
    · subst e; simp
    · simp [e]
  · exact ownsRow_of_block h.tr fun g hg => Below.heap_setCell _ _ _ _ (h.ne g hg).2.1

theorem St.setA {c : Cfg} {s : PS} {w : World} (h : St c s w) (a b : Nat) : St c { s with Ma := setM c s.Ma a b } (w.setCell ⟨c.Af, at_ c a b, none⟩ (.int .u64 ((s.Ma (at_ c a b) ||| 2 ^ (b % 64) : Nat) : Int))) := by
  have hne := h.ok.ne
  simp at hne
  refine ⟨h.ok, h.p.setOther (by simp; omega) _, h.b.setOther (by simp; omega) _, ?_, h.l.setOther (by simp; omega) _, h.t.setOther (by simp; omega) _, h.r.setOther (by simp; omega) _, h.ws.setOther (by simp; omega) _, h.mb, setM_lt h.ma, ?_, h.cf, h.ne⟩
  · refine (h.a.set _ _).congr fun j _ => ?_
    unfold setM
    by_cases e : j = at_ c a b
    · subst e; simp
    · simp [e]
  · exact ownsRow_of_block h.tr fun g hg => Below.heap_setCell _ _ _ _ (h.ne g hg).2.2.1

theorem St.setL {c : Cfg} {s : PS} {w : World} (h : St c s w) (j : Nat) : St c s (w.setCell ⟨c.Lv, j, none⟩ (.int .i32 0)) := by
  have hne := h.ok.ne
  simp at hne
  refine ⟨h.ok, h.p.setOther (by simp; omega) _, h.b.setOther (by simp; omega) _, h.a.setOther (by simp; omega) _, ?_, h.t.setOther (by simp; omega) _, h.r.setOther (by simp; omega) _, h.ws.setOther (by simp; omega) _, h.mb, h.ma, ?_, h.cf, h.ne⟩
  · exact (h.l.set _ _).congr fun i _ => by simp
  · exact ownsRow_of_block h.tr fun g hg => Below.heap_setCell _ _ _ _ (h.ne g hg).2.2.2.1
theorem St.setT {c : Cfg} {s : PS} {w : World} (h : St c s w) (j : Nat) (v : Value) : St c { s with atF := fun i => if i = j then v else s.atF i } (w.setCell ⟨c.At, j, none⟩ v) := by
  have hne := h.ok.ne
  simp at hne
  refine ⟨h.ok, h.p.setOther (by simp; omega) _, h.b.setOther (by simp; omega) _, h.a.setOther (by simp; omega) _, h.l.setOther (by simp; omega) _, h.t.set _ _, h.r.setOther (by simp; omega) _, h.ws.setOther (by simp; omega) _, h.mb, h.ma, ?_, h.cf, h.ne⟩
  exact ownsRow_of_block h.tr fun g hg => Below.heap_setCell _ _ _ _ (h.ne g hg).2.2.2.2.1
theorem St.setR {c : Cfg} {s : PS} {w : World} (h : St c s w) (j : Nat) (v : Value) : St c { s with rsF := fun i => if i = j then v else s.rsF i } (w.setCell ⟨c.Rs, j, none⟩ v) := by
  have hne := h.ok.ne
  simp at hne
  refine ⟨h.ok, h.p.setOther (by simp; omega) _, h.b.setOther (by simp; omega) _, h.a.setOther (by simp; omega) _, h.l.setOther (by simp; omega) _, h.t.setOther (by simp; omega) _, h.r.set _ _, h.ws.setOther (by simp; omega) _, h.mb, h.ma, ?_, h.cf, h.ne⟩
  exact ownsRow_of_block h.tr fun g hg => Below.heap_setCell _ _ _ _ (h.ne g hg).2.2.2.2.2.1

/-- The box of the receiver is none of the search's blocks. -/
theorem box_ne {c : Cfg} {s : PS} {w : World} (h : St c s w) {X : Nat} (hX : w.cell? ⟨X, 0, none⟩ = some (.pointer (some ⟨c.P, 0, none⟩))) : X ≠ c.Bf ∧ X ≠ c.Af ∧ X ≠ c.Lv := by
  have hn := h.ok.n1
  have hw := h.ok.w1
  have h1 : 0 < c.n * c.words := Nat.mul_pos (by omega) (by omega)
  have h2 : 0 < c.n * c.n := Nat.mul_pos (by omega) (by omega)
  refine ⟨?_, ?_, ?_⟩ <;> rintro rfl
  · have := h.b.cell h1; rw [hX] at this; simp at this
  · have := h.a.cell h1; rw [hX] at this; simp at this
  · have := h.l.cell h2; rw [hX] at this; simp at this

def newVal (c : Cfg) (tv : Value) (L : Int) (m B : Nat) (i : Nat) (γ : Option (Nat × Nat)) (v : Value) (w : World) : Prop :=
  match i with
  | 0 => v = .pointer (some ⟨c.P, 0, none⟩)
  | 1 => v = .pointer (some ⟨c.P, 0, none⟩)
  | 2 => v = .pointer (some ⟨c.P, 0, none⟩)
  | 3 => v = .pointer (some ⟨c.P, 8, none⟩)
  | 4 => v = tv
  | 5 => v = .int .i32 L
  | 6 => ∃ b, v = .slice (some ⟨b, 0, none⟩) 1 1 ∧ B ≤ b ∧ b < w.heap.size ∧ w.heap[b]? = some (.cells #[.int .i32 L] 21 (0, 0))
  | 7 => ∃ gg cap, γ = some (gg, cap) ∧ v = .slice (some ⟨gg, 0, none⟩) (m + 1) cap
  | 8 => v = .pointer (some ⟨c.P, 0, none⟩)
  | 9 => v = .pointer (some ⟨c.P, 8, none⟩)
  | _ => True

theorem newVal_go (c : Cfg) (tv : Value) (L : Int) (m B : Nat) : ∀ i γ v w γ' w', Go1 B γ w γ' w' → newVal c tv L m B i γ v w → newVal c tv L m B i γ' v w' := by
  intro i γ v w γ' w' hg h
  unfold newVal at *
  split at h <;> try exact h
  · obtain ⟨b, rfl, h1, h2, h3⟩ := h
    exact ⟨b, rfl, h1, Nat.lt_of_lt_of_le h2 hg.1, (hg.2.1 b h1 h2).trans h3⟩
  · obtain ⟨gg, cap, h1, h2⟩ := h
    exact ⟨gg, cap, hg.2.2 _ h1, h2⟩

/-- What holds while the trail's append runs. -/
def G13 (c : Cfg) (s : PS) (w : World) (X : Nat) (L : Int) (listed : Array Bool) (γ : Option (Nat × Nat)) (wx : World) : Prop :=
  wx.cell? ⟨X, 0, none⟩ = some (.pointer (some ⟨c.P, 0, none⟩)) ∧ Keeps (fun j => j = c.P ∨ s.tv.ownBlock = some j) w wx ∧
      (listed[7]? = some false → γ = none ∧ wx.ownsRow 0 21 1 s.tv s.tr.length (trailCells s.tr)) ∧
      (∀ gg cap, γ = some (gg, cap) → wx.ownsRow 0 21 1 (.slice (some ⟨gg, 0, none⟩) (s.tr.length + 1) cap) (s.tr.length + 1) (trailCells s.tr ++ [Value.int .i32 L]) ∧ (s.tv.ownBlock = some gg ∨ w.heap.size ≤ gg)) ∧
      (listed[10]? = some false → wx.rowIs c.P 51 34 (pcell c s)) ∧
      (listed[10]? = some true → ∃ gg cap, γ = some (gg, cap) ∧ wx.rowIs c.P 51 34 (pcell c { s with tv := .slice (some ⟨gg, 0, none⟩) (s.tr.length + 1) cap }))

set_option maxRecDepth 100000 in
set_option maxHeartbeats 2000000 in
theorem set_new (c : Cfg) (s : PS) (w : World) (hS : St c s w) (L r : Int) (a b : Nat) (hL : L = (a : Int) * (c.n : Int) + (b : Int)) (ha : a < c.n) (hb : b < c.n) (h1 : R c s.Mb a b = false) (h2 : R c s.Mb b a = false) (htl : s.tr.length ≤ 6400) :
    Calls Ybad.prog 11 #[.pointer (some ⟨c.P, 0, none⟩), .int .i32 L, .int .i32 r] w fun e w' => e = .returned (.bool true) ∧ (∃ tv' atF' rsF', St c { s with Mb := setM c s.Mb a b, Ma := setM c s.Ma b a, tr := s.tr ++ [a * c.n + b], tv := tv', atF := atF', rsF := rsF' } w' ∧ newer w s.tv tv') ∧ Keeps (own c s.tv.ownBlock) w w' := by
  have HL : Hid (_) := hL
  have e1 := lit_div hL hb
  have e2 := lit_mod hL hb
  have hbd := lit_bd hL ha hb hS.ok.n80
  have lP := hS.p.lt
  have HLn : Hid (L.toNat = a * c.n + b) := by show L.toNat = _; rw [lit_nat hL]; exact Int.toNat_natCast _
  have hXA : w.heap.size ≠ c.At := by have := hS.t.lt; omega
  have hXR : w.heap.size ≠ c.Rs := by have := hS.r.lt; omega
  have hXT : s.tv.ownBlock ≠ some w.heap.size := fun e => by have := ownsRow_lt hS.tr _ e; omega
  clear hL
  go_enter Ybad.func11, Ybad.ntmps11
  go_wp2_with fail
  refine (holds_any c hS.ok s _ (hS.p.alloc _) (hS.b.alloc _) hS.mb L a b HL.out ha hb).mono ?_
  rintro e w1 ⟨rfl, hq⟩
  have hS1 : St c s w1 := by obtain ⟨k, rfl⟩ := hq; exact (hS.alloc _).drewN k
  have hK1 : Keeps (own c s.tv.ownBlock) w w1 := by obtain ⟨k, rfl⟩ := hq; exact ((Keeps.refl _ _).alloc _).drewN k
  have hX1 : w1.cell? ⟨w.heap.size, 0, none⟩ = some (.pointer (some ⟨c.P, 0, none⟩)) := by obtain ⟨k, rfl⟩ := hq; simp
  clear hq
  rw [h1]
  go_wp2_with fail
  refine (fails_any c hS1.ok s _ hS1.p hS1.b hS1.mb L a b HL.out ha hb).mono ?_
  rintro e w2 ⟨rfl, hq⟩
  have hS2 : St c s w2 := by obtain ⟨k, rfl⟩ := hq; exact hS1.drewN k
  have hK2 : Keeps (own c s.tv.ownBlock) w w2 := by obtain ⟨k, rfl⟩ := hq; exact hK1.drewN k
  have hX2 : w2.cell? ⟨w.heap.size, 0, none⟩ = some (.pointer (some ⟨c.P, 0, none⟩)) := by obtain ⟨k, rfl⟩ := hq; simpa using hX1
  clear hq hS1 hK1 hX1
  rw [h2]
  generalize hXd : w.heap.size = X at *
  have hXP : X ≠ c.P := by omega
  have h0 := pc0 hS2.p
  have hn1 := hS.ok.n1
  have hn2 := hS.ok.n80
  go_upto_region 7 with fail
  go_cut [7, 8] (fun v7 v8 wy => v7 = .int .i64 (a : Int) ∧ v8 = .int .i64 (b : Int) ∧ St c s wy ∧ wy.cell? ⟨X, 0, none⟩ = some (.pointer (some ⟨c.P, 0, none⟩)) ∧ Keeps (own c s.tv.ownBlock) w wy)
  case first =>
    go_quiet (fail)
    go_wp2_with fail
    go_meet
    case rel => exact ⟨by rw [e1], by rw [e2], hS2.drewN _, by simpa using hX2, hK2.drewN _⟩
  case rest =>
    obtain ⟨rfl, rfl, hS3, hX3, hK3⟩ := hcut
    clear hS2 hX2 hK2 h0
    have hi := at_lt hS3.ok ha hb
    have hi' := at_lt hS3.ok hb ha
    have hz := at_bd hS3.ok ha hb
    have hz' := at_bd hS3.ok hb ha
    have hnw := nw_le hS3.ok
    go_upto_region 8 with fail
    go_cut [] (fun wy => St c { s with Mb := setM c s.Mb a b } wy ∧ wy.cell? ⟨X, 0, none⟩ = some (.pointer (some ⟨c.P, 0, none⟩)) ∧ Keeps (own c s.tv.ownBlock) w wy)
    case first =>
      have h1 := pc1 hS3.p
      have h3 := pc3 hS3.p
      have hc3 := hS3.b.cell hi
      have hf3 := hS3.b.frozen (at_ c a b)
      have HO : Hid (_) := bit_or (s.Mb (at_ c a b)) (b % 64) (hS3.mb _) (Nat.mod_lt _ (by omega))
      have HT : Hid (_) := hS3.setB a b
      have hneX := (box_ne hS3 hX3).1
      have hKB : Keeps (own c s.tv.ownBlock) w (wc.setCell ⟨c.Bf, at_ c a b, none⟩ (.int .u64 ((s.Mb (at_ c a b) ||| 2 ^ (b % 64) : Nat) : Int))) := hK3.setCell (fun _ => by simp [own]) _
      have HK : Hid (_) := hKB
      have HX : Hid ((wc.setCell ⟨c.Bf, at_ c a b, none⟩ (.int .u64 ((s.Mb (at_ c a b) ||| 2 ^ (b % 64) : Nat) : Int))).cell? ⟨X, 0, none⟩ = some (.pointer (some ⟨c.P, 0, none⟩))) := by
        show _ = _
        rw [World.cell?_of_block (w := wc) (Below.heap_setCell _ _ _ _ hneX)]; exact hX3
      clear hKB
      rw [← HO.out] at HT HK HX
      unfold at_ at hi hc3 hf3
      obtain ⟨hz1, hz2, hz3⟩ := hz
      obtain ⟨hz1', hz2', hz3'⟩ := hz'
      have hn1' := hS3.ok.w1
      clear hS3 hK3 hi'
      go_region
      all_goals
        go_wp2_with fail
        go_meet
        case rel => exact ⟨St.drew HT.out, HX.out, Keeps.drew HK.out⟩
    case rest =>
      obtain ⟨hS4, hX4, hK4⟩ := hcut
      clear hS3 hX3 hK3
      go_upto_region 9 with fail
      go_cut [] (fun wy => St c { s with Mb := setM c s.Mb a b, Ma := setM c s.Ma b a } wy ∧ wy.cell? ⟨X, 0, none⟩ = some (.pointer (some ⟨c.P, 0, none⟩)) ∧ Keeps (own c s.tv.ownBlock) w wy)
      case first =>
        have h1 := pc1 hS4.p
        have h3 := pc4 hS4.p
        have hc3 := hS4.a.cell hi'
        have hf3 := hS4.a.frozen (at_ c b a)
        have HO : Hid (_) := bit_or (s.Ma (at_ c b a)) (a % 64) (hS4.ma _) (Nat.mod_lt _ (by omega))
        have HT : Hid (_) := hS4.setA b a
        have hneX := (box_ne hS4 hX4).2.1
        have hKB : Keeps (own c s.tv.ownBlock) w (wc.setCell ⟨c.Af, at_ c b a, none⟩ (.int .u64 ((s.Ma (at_ c b a) ||| 2 ^ (a % 64) : Nat) : Int))) := hK4.setCell (fun _ => by simp [own]) _
        have HK : Hid (_) := hKB
        have HX : Hid ((wc.setCell ⟨c.Af, at_ c b a, none⟩ (.int .u64 ((s.Ma (at_ c b a) ||| 2 ^ (a % 64) : Nat) : Int))).cell? ⟨X, 0, none⟩ = some (.pointer (some ⟨c.P, 0, none⟩))) := by
          show _ = _
          rw [World.cell?_of_block (w := wc) (Below.heap_setCell _ _ _ _ hneX)]; exact hX4
        clear hKB
        rw [← HO.out] at HT HK HX
        unfold at_ at hi' hc3 hf3
        obtain ⟨hz1, hz2, hz3⟩ := hz
        obtain ⟨hz1', hz2', hz3'⟩ := hz'
        have hn1' := hS4.ok.w1
        clear hS4 hK4 hi
        go_region
        all_goals
          go_wp2_with fail
          go_meet
          case rel => exact ⟨St.drew HT.out, HX.out, Keeps.drew HK.out⟩
      case rest =>
        obtain ⟨hS5, hX5, hK5⟩ := hcut
        clear hS4 hX4 hK4 hz hz' hi hi'
        have hLn : L.toNat < c.n * c.n := by
          have := lit_nat HL.out
          have := lit_lt ha hb
          omega
        have hLi : L < ((c.n * c.n : Nat) : Int) := by omega
        have hLi' : L < (c.n : Int) * (c.n : Int) := by push_cast at hLi; exact hLi
        have hL0 : 0 ≤ L := hbd.1
        have hnn := nn_le hn2
        go_upto_region 10 with fail
        go_cut [] (fun wy => St c { s with Mb := setM c s.Mb a b, Ma := setM c s.Ma b a } wy ∧ wy.cell? ⟨X, 0, none⟩ = some (.pointer (some ⟨c.P, 0, none⟩)) ∧ Keeps (own c s.tv.ownBlock) w wy)
        case first =>
          have h5 := pc5 hS5.p
          have hc5 := hS5.l.cell hLn
          have hf5 := hS5.l.frozen L.toNat
          have hneX := (box_ne hS5 hX5).2.2
          have HT : Hid (_) := hS5.setL L.toNat
          have hKB : Keeps (own c s.tv.ownBlock) w (wc.setCell ⟨c.Lv, L.toNat, none⟩ (.int .i32 0)) := hK5.setCell (fun _ => by simp [own]) _
          have HK : Hid (_) := hKB
          have HX : Hid ((wc.setCell ⟨c.Lv, L.toNat, none⟩ (.int .i32 0)).cell? ⟨X, 0, none⟩ = some (.pointer (some ⟨c.P, 0, none⟩))) := by
            show _ = _
            rw [World.cell?_of_block (w := wc) (Below.heap_setCell _ _ _ _ hneX)]; exact hX5
          have HP : Hid (_) := hS5.p
          have hPL : c.P ≠ c.Lv := by have := hS5.ok.ne; simp at this; omega
          have hSX : ∀ v, (wc.setCell ⟨c.Lv, L.toNat, none⟩ v).cell? ⟨X, 0, none⟩ = some (.pointer (some ⟨c.P, 0, none⟩)) := fun v => by
            rw [World.cell?_of_block (w := wc) (Below.heap_setCell _ _ _ _ hneX)]; exact hX5
          have hSP : ∀ v, (wc.setCell ⟨c.Lv, L.toNat, none⟩ v).cell? ⟨c.P, 5, none⟩ = some (.slice (some ⟨c.Lv, 0, none⟩) (c.n * c.n) (c.n * c.n)) := fun v => by
            rw [World.cell?_of_block (w := wc) (Below.heap_setCell _ _ _ _ hPL)]; exact h5
          have hw0 : IntKind.i32.wrap 0 = 0 := by decide
          clear hKB hS5 hK5
          go_region_held3 (fun w' => w'.cell? ⟨X, 0, none⟩ = some (.pointer (some ⟨c.P, 0, none⟩)) ∧ w'.cell? ⟨c.P, 5, none⟩ = some (.slice (some ⟨c.Lv, 0, none⟩) (c.n * c.n) (c.n * c.n)))
            (go_keep)
            ((go_at_call 13; refine (depth_any c _ _ (World.rowIs.drew HP.out)).mono ?_; rintro e w' ⟨rfl, rfl⟩))
          go_wp2_with fail
          go_meet
          case rel => exact ⟨St.drew HT.out, HX.out, Keeps.drew HK.out⟩
        case rest =>
          obtain ⟨hS6, hX6, hK6⟩ := hcut
          clear hS5 hX5 hK5
          obtain ⟨s6, hsd⟩ : ∃ s6 : PS, Hid (s6 = { s with Mb := setM c s.Mb a b, Ma := setM c s.Ma b a }) := ⟨_, rfl⟩
          have htv : Hid (s6.tv = s.tv) := by rw [hsd.out]; rfl
          have htr : Hid (s6.tr = s.tr) := by rw [hsd.out]; rfl
          rw [← hsd.out] at hS6
          obtain ⟨ao, tl, cp, htvs⟩ := ownsRow_shape hS6.tr
          have HTV : Hid (_) := htvs
          clear htvs
          go_upto_region 11 with fail
          go_cut [] (fun wy => ∃ atF', St c { s6 with atF := atF' } wy ∧ wy.cell? ⟨X, 0, none⟩ = some (.pointer (some ⟨c.P, 0, none⟩)) ∧ Keeps (own c s.tv.ownBlock) w wy)
          case first =>
            have h6 := pc6 hS6.p
            have h8 := pc8 hS6.p
            rw [HTV.out] at h8
            have hc6 := hS6.t.cell hLn
            have hf6 := hS6.t.frozen L.toNat
            have hPA : c.P ≠ c.At := by have := hS6.ok.ne; simp at this; omega
            have lAt := hS6.t.lt
            have HT : Hid (∀ v, St c { s6 with atF := fun i => if i = L.toNat then v else s6.atF i } (wc.setCell ⟨c.At, L.toNat, none⟩ v)) := fun v => hS6.setT L.toNat v
            have HK : Hid (∀ v, Keeps (own c s.tv.ownBlock) w (wc.setCell ⟨c.At, L.toNat, none⟩ v)) := fun v => hK6.setCell (fun _ => by simp [own]) _
            have hneX : X ≠ c.At := hXA
            have hSX : ∀ v, (wc.setCell ⟨c.At, L.toNat, none⟩ v).cell? ⟨X, 0, none⟩ = some (.pointer (some ⟨c.P, 0, none⟩)) := fun v => by
              rw [World.cell?_of_block (w := wc) (Below.heap_setCell _ _ _ _ hneX)]; exact hX6
            have hSP : ∀ v, (wc.setCell ⟨c.At, L.toNat, none⟩ v).cell? ⟨c.P, 6, none⟩ = some (.slice (some ⟨c.At, 0, none⟩) (c.n * c.n) (c.n * c.n)) := fun v => by
              rw [World.cell?_of_block (w := wc) (Below.heap_setCell _ _ _ _ hPA)]; exact h6
            have hSQ : ∀ v, (wc.setCell ⟨c.At, L.toNat, none⟩ v).cell? ⟨c.P, 8, none⟩ = some (.slice ao tl cp) := fun v => by
              rw [World.cell?_of_block (w := wc) (Below.heap_setCell _ _ _ _ hPA)]; exact h8
            have HX : Hid (_) := hSX
            clear hS6 hK6 htv hsd
            go_region_held3 (fun w' => w'.cell? ⟨X, 0, none⟩ = some (.pointer (some ⟨c.P, 0, none⟩)) ∧ w'.cell? ⟨c.P, 6, none⟩ = some (.slice (some ⟨c.At, 0, none⟩) (c.n * c.n) (c.n * c.n)) ∧ w'.cell? ⟨c.P, 8, none⟩ = some (.slice ao tl cp))
              (go_keep)
              (fail)
            go_wp2_with fail
            go_meet
            case rel => exact ⟨_, St.drew (HT.out _), HX.out _, Keeps.drew (HK.out _)⟩
          case rest =>
            obtain ⟨atF', hS7, hX7, hK7⟩ := hcut
            clear hS6 hX6 hK6
            have h7 := pc7 hS7.p
            have hc7 := hS7.r.cell hLn
            have hf7 := hS7.r.frozen L.toNat
            have HT := hS7.setR L.toNat (.int .i32 r)
            have hKB : Keeps (own c s.tv.ownBlock) w (wc.setCell ⟨c.Rs, L.toNat, none⟩ (.int .i32 r)) := hK7.setCell (fun _ => by simp [own]) _
            have hneX : X ≠ c.Rs := hXR
            have hSX : (wc.setCell ⟨c.Rs, L.toNat, none⟩ (.int .i32 r)).cell? ⟨X, 0, none⟩ = some (.pointer (some ⟨c.P, 0, none⟩)) := by
              rw [World.cell?_of_block (w := wc) (Below.heap_setCell _ _ _ _ hneX)]; exact hX7
            go_upto_region 12 with fail
            go_cut [] (fun wy => ∃ rsF', St c { s6 with atF := atF', rsF := rsF' } wy ∧ wy.cell? ⟨X, 0, none⟩ = some (.pointer (some ⟨c.P, 0, none⟩)) ∧ Keeps (own c s.tv.ownBlock) w wy)
            case first =>
              have HT' : Hid (_) := HT
              have HK' : Hid (_) := hKB
              have HX' : Hid (_) := hSX
              clear HT hKB hSX hS7 hK7
              go_wp2_with fail
              go_meet
              case rel => exact ⟨_, HT'.out, HX'.out, HK'.out⟩
            case rest =>
              obtain ⟨rsF', hS8, hX8, hK8⟩ := hcut
              clear HT hKB hSX hS7 hX7 hK7 h7 hc7 hf7
              obtain ⟨s8, hsd8⟩ : ∃ s8 : PS, Hid (s8 = { s6 with atF := atF', rsF := rsF' }) := ⟨_, rfl⟩
              have htv8 : Hid (s8.tv = s.tv) := by rw [hsd8.out]; exact htv
              have htr8 : Hid (s8.tr = s.tr) := by rw [hsd8.out]; exact htr
              rw [← hsd8.out] at hS8
              have htl8 : s8.tr.length ≤ 6400 := by rw [htr8.out]; exact htl
              obtain ⟨i0, hi0, hz0, hz1, hz2⟩ := info_parts info21
              have lX8 : X < wc.heap.size := by have := World.block_lt_of_cell? wc _ hX8; simpa using this
              have lP8 := hS8.p.lt
              have aP : s8.tv.ownBlock ≠ some c.P := fun e => (hS8.ne _ e).1 rfl
              have aX : s8.tv.ownBlock ≠ some X := fun e => hXT (by rw [← htv8.out]; exact e)
              go_upto_region 13 with fail
              refine wp_region_ops (N := 133) (by kernel_rfl) (by kernel_rfl) (newVal c s8.tv L s8.tr.length wc.heap.size) (G13 c s8 wc X L)
                (Go1 wc.heap.size) none (newVal_go c s8.tv L s8.tr.length wc.heap.size) rfl ⟨hX8, (Keeps.refl _ _).drew, fun _ => ⟨rfl, hS8.tr⟩, fun _ _ h => (by cases h), fun _ => hS8.p, fun h => (by simp at h)⟩ ?_ ?_
              · intro i o hi listed γ b wx hcl hls hun hpre hR hG
                obtain ⟨gX, gK, g7, gg7, g10, g10'⟩ := hG
                have hset : ∀ j : Nat, j ≠ i → (listed.setIfInBounds i true)[j]? = listed[j]? := fun j hj => Array.getElem?_setIfInBounds_ne (Ne.symm hj)
                have keep : i ≠ 7 ∧ i ≠ 10 → G13 c s8 wc X L (listed.setIfInBounds i true) γ wx := fun h => ⟨gX, gK, by rw [hset 7 (Ne.symm h.1)]; exact g7, gg7, by rw [hset 10 (Ne.symm h.2)]; exact g10, by rw [hset 10 (Ne.symm h.2)]; exact g10'⟩
                match i, hi with
                | 0, hi =>
                  simp only [List.getElem?_toArray, List.getElem?_cons_zero, List.getElem?_cons_succ, Option.some.injEq] at hi
                  subst hi
                  have e3 : b.tmps[3]?.getD undef = .pointer (some ⟨X, 0, none⟩) := hR.old (by decide)
                  exact wp_of_value (v := .pointer (some ⟨c.P, 0, none⟩)) (w' := wx) (by go_simp) ⟨_, γ, rfl, keep (by omega), Go1.refl _ _ _, by simp, rfl⟩
                | 1, hi =>
                  simp only [List.getElem?_toArray, List.getElem?_cons_zero, List.getElem?_cons_succ, Option.some.injEq] at hi
                  subst hi
                  have e3 : b.tmps[3]?.getD undef = .pointer (some ⟨X, 0, none⟩) := hR.old (by decide)
                  exact wp_of_value (v := .pointer (some ⟨c.P, 0, none⟩)) (w' := wx) (by go_simp) ⟨_, γ, rfl, keep (by omega), Go1.refl _ _ _, by simp, rfl⟩
                | 2, hi =>
                  simp only [List.getElem?_toArray, List.getElem?_cons_zero, List.getElem?_cons_succ, Option.some.injEq] at hi
                  subst hi
                  have e124 : b.tmps[124]?.getD undef = .pointer (some ⟨c.P, 0, none⟩) := hR.at (j := 1) rfl (hpre ⟨1, .data⟩ (by simp) rfl)
                  exact wp_of_value (v := .pointer (some ⟨c.P, 0, none⟩)) (w' := wx) (by go_simp) ⟨_, γ, rfl, keep (by omega), Go1.refl _ _ _, by simp, rfl⟩
                | 3, hi =>
                  simp only [List.getElem?_toArray, List.getElem?_cons_zero, List.getElem?_cons_succ, Option.some.injEq] at hi
                  subst hi
                  have e125 : b.tmps[125]?.getD undef = .pointer (some ⟨c.P, 0, none⟩) := hR.at (j := 2) rfl (hpre ⟨2, .data⟩ (by simp) rfl)
                  exact wp_of_value (v := .pointer (some ⟨c.P, 8, none⟩)) (w' := wx) (by go_simp) ⟨_, γ, rfl, keep (by omega), Go1.refl _ _ _, by simp, rfl⟩
                | 4, hi =>
                  simp only [List.getElem?_toArray, List.getElem?_cons_zero, List.getElem?_cons_succ, Option.some.injEq] at hi
                  subst hi
                  have e126 : b.tmps[126]?.getD undef = .pointer (some ⟨c.P, 8, none⟩) := hR.at (j := 3) rfl (hpre ⟨3, .data⟩ (by simp) rfl)
                  have h10 := hcl.before hls hun (j := 10) rfl (e := ⟨4, .phase⟩) (by simp) rfl rfl
                  have h8 := pc8 (g10 h10)
                  exact wp_of_value (v := s8.tv) (w' := wx) (by go_simp) ⟨_, γ, rfl, keep (by omega), Go1.refl _ _ _, by simp, rfl⟩
                | 5, hi =>
                  simp only [List.getElem?_toArray, List.getElem?_cons_zero, List.getElem?_cons_succ, Option.some.injEq] at hi
                  subst hi
                  have e1 : b.tmps[1]?.getD undef = .int .i32 L := hR.old (by decide)
                  exact wp_of_value (v := .int .i32 L) (w' := wx) (by go_simp) ⟨_, γ, rfl, keep (by omega), Go1.refl _ _ _, by simp, rfl⟩
                | 6, hi =>
                  simp only [List.getElem?_toArray, List.getElem?_cons_zero, List.getElem?_cons_succ, Option.some.injEq] at hi
                  subst hi
                  have e128 : b.tmps[128]?.getD undef = .int .i32 L := hR.at (j := 5) rfl (hpre ⟨5, .data⟩ (by simp) rfl)
                  have hK := gK.size
                  refine wp_of_value (v := .slice (some ⟨wx.heap.size, 0, none⟩) 1 1) (w' := wx.alloc (.cells #[.int .i32 L] 21)) (by go_simp) ⟨_, γ, rfl, ⟨?_, gK.alloc _, ?_, ?_, ?_, ?_⟩, ⟨by simp, fun b' _ h => Below.heap_alloc _ _ _ h, fun _ h => h⟩, by simp, ⟨wx.heap.size, rfl, hK, by simp, heap_alloc_new wx _⟩⟩
                  · rw [World.cell?_of_block (w := wx) (Below.heap_alloc _ _ _ (show X < wx.heap.size by omega))]; exact gX
                  · rw [hset 7 (by omega)]; exact fun h => ⟨(g7 h).1, (g7 h).2.alloc _⟩
                  · exact fun gg cap h => ⟨(gg7 gg cap h).1.alloc _, (gg7 gg cap h).2⟩
                  · rw [hset 10 (by omega)]; exact fun h => (g10 h).alloc _
                  · rw [hset 10 (by omega)]; intro h; obtain ⟨gg, cap, h1, h2⟩ := g10' h; exact ⟨gg, cap, h1, h2.alloc _⟩
                | 7, hi =>
                  simp only [List.getElem?_toArray, List.getElem?_cons_zero, List.getElem?_cons_succ, Option.some.injEq] at hi
                  subst hi
                  have e127 : b.tmps[127]?.getD undef = s8.tv := hR.at (j := 4) rfl (hpre ⟨4, .data⟩ (by simp) rfl)
                  obtain ⟨bb, e129, hb1, hb2, hb3⟩ : ∃ bb, b.tmps[129]?.getD undef = .slice (some ⟨bb, 0, none⟩) 1 1 ∧ wc.heap.size ≤ bb ∧ bb < wx.heap.size ∧ wx.heap[bb]? = some (.cells #[.int .i32 L] 21 (0, 0)) := hR.at (j := 6) rfl (hpre ⟨6, .data⟩ (by simp) rfl)
                  have h10 := hcl.before hls hun (j := 10) rfl (e := ⟨7, .data⟩) (by simp) rfl rfl
                  obtain ⟨hγ, hown⟩ := g7 hun
                  have hK := gK.size
                  refine wp_append_lies wx (.tmp 127) (.tmp 129) 38 rfl 0 21 i0 _ 1 4 Ybad.underlying38 hi0 hz0 hz1 hz2 rfl (by omega) s8.tv s8.tr.length (trailCells s8.tr) (by simpa [Act.eval] using e127) hown ⟨bb, 0, none⟩ 1 1 [.int .i32 L] (by simpa [Act.eval] using e129) rfl (World.news_of_block hb3) (by simp [Value.oneCell']) (by omega) (by unfold maxLen; omega) (by omega) (by omega) wx.heap.size rfl ?_
                  intro gg cap w1 hown1 hgrow hat hlt
                  have hrow : ∀ j, s8.tv.ownBlock = some j → j < wc.heap.size := fun j hj => ownsRow_lt hS8.tr j hj
                  refine ⟨_, some (gg, cap), rfl, ⟨?_, gK.grown hgrow (fun j hj _ => Or.inr hj), ?_, ?_, ?_, ?_⟩, ⟨hgrow.size, fun j h1 h2 => hgrow.block j h2 (fun e => ?_), fun q h => ?_⟩, by simp, ⟨gg, cap, rfl, rfl⟩⟩
                  · rw [World.cell?_of_block (hgrow.block X (by omega) (fun e => aX e.symm))]; exact gX
                  · intro h
                    rw [Array.getElem?_setIfInBounds_self_of_lt (by rw [hls]; decide)] at h
                    cases h
                  · intro gg' cap' h
                    obtain ⟨rfl, rfl⟩ : gg = gg' ∧ cap = cap' := by simpa using h
                    exact ⟨hown1, hat.imp id (fun e => by omega)⟩
                  · intro _; exact (g10 h10).of_block (hgrow.block c.P (g10 h10).lt (fun e => aP e.symm))
                  · rw [hset 10 (by omega), h10]; intro h; cases h
                  · have := hrow j e.symm; omega
                  · rw [hγ] at h; cases h
                | 8, hi =>
                  simp only [List.getElem?_toArray, List.getElem?_cons_zero, List.getElem?_cons_succ, Option.some.injEq] at hi
                  subst hi
                  have e123 : b.tmps[123]?.getD undef = .pointer (some ⟨c.P, 0, none⟩) := hR.at (j := 0) rfl (hpre ⟨0, .data⟩ (by simp) rfl)
                  exact wp_of_value (v := .pointer (some ⟨c.P, 0, none⟩)) (w' := wx) (by go_simp) ⟨_, γ, rfl, keep (by omega), Go1.refl _ _ _, by simp, rfl⟩
                | 9, hi =>
                  simp only [List.getElem?_toArray, List.getElem?_cons_zero, List.getElem?_cons_succ, Option.some.injEq] at hi
                  subst hi
                  have e131 : b.tmps[131]?.getD undef = .pointer (some ⟨c.P, 0, none⟩) := hR.at (j := 8) rfl (hpre ⟨8, .data⟩ (by simp) rfl)
                  exact wp_of_value (v := .pointer (some ⟨c.P, 8, none⟩)) (w' := wx) (by go_simp) ⟨_, γ, rfl, keep (by omega), Go1.refl _ _ _, by simp, rfl⟩
                | 10, hi =>
                  simp only [List.getElem?_toArray, List.getElem?_cons_zero, List.getElem?_cons_succ, Option.some.injEq] at hi
                  subst hi
                  have e132 : b.tmps[132]?.getD undef = .pointer (some ⟨c.P, 8, none⟩) := hR.at (j := 9) rfl (hpre ⟨9, .data⟩ (by simp) rfl)
                  obtain ⟨gg, cap, hγ, e130⟩ : ∃ gg cap, γ = some (gg, cap) ∧ b.tmps[130]?.getD undef = .slice (some ⟨gg, 0, none⟩) (s8.tr.length + 1) cap := hR.at (j := 7) rfl (hpre ⟨7, .data⟩ (by simp) rfl)
                  have hP' := g10 hun
                  have h8 := pc8 hP'
                  have hf := hP'.frozen 8
                  obtain ⟨ho, hat⟩ := gg7 gg cap hγ
                  have hne : gg ≠ c.P := by
                    rcases hat with h | h
                    · exact fun e => aP (by rw [h, e])
                    · omega
                  have h7 : listed[7]? = some true := hpre ⟨7, .data⟩ (by simp) rfl
                  refine wp_of_skip (w' := wx.setCell ⟨c.P, 8, none⟩ (.slice (some ⟨gg, 0, none⟩) (s8.tr.length + 1) cap)) (by go_simp) ⟨_, γ, rfl, ⟨?_, gK.setCell (fun _ => Or.inl rfl) _, ?_, ?_, ?_, ?_⟩, ⟨by simp, fun j h1 _ => Below.heap_setCell _ _ _ _ (by simp; omega), fun _ h => h⟩, by simp, trivial⟩
                  · rw [World.cell?_of_block (w := wx) (Below.heap_setCell _ _ _ _ (by simpa using hXP))]; exact gX
                  · rw [hset 7 (by omega), h7]; intro h; cases h
                  · intro gg' cap' h
                    rw [hγ] at h
                    obtain ⟨rfl, rfl⟩ : gg = gg' ∧ cap = cap' := by simpa using h
                    exact ⟨ownsRow_of_block ho (fun j hj => Below.heap_setCell _ _ _ _ (by simp [Value.ownBlock] at hj; subst hj; simpa using hne)), hat⟩
                  · intro h
                    rw [Array.getElem?_setIfInBounds_self_of_lt (by rw [hls]; decide)] at h
                    cases h
                  · intro _
                    exact ⟨gg, cap, hγ, (hP'.set 8 _).congr (fun j _ => pcell_tv c s8 _ j)⟩
                | n + 11, hi => simp at hi
              · intro listed γ b wx hall hR hG
                obtain ⟨gX, gK, g7, gg7, g10, g10'⟩ := hG
                obtain ⟨gg, cap, hγ, hrow⟩ := g10' (hall 10 (by decide))
                obtain ⟨ho, hat⟩ := gg7 gg cap hγ
                have hds := hR.ds
                have hsz := hR.size
                clear hR
                have hfin : St c { s8 with tr := s8.tr ++ [L.toNat], tv := .slice (some ⟨gg, 0, none⟩) (s8.tr.length + 1) cap } wx := by
                  have hk : ∀ k, own c none k → k ≠ c.P → wx.heap[k]? = wc.heap[k]? := by
                    intro k ho' hne
                    refine gK.block k (hS8.own_lt k (by rcases ho' with h | h | h | h | h | h | h | h <;> first | (cases h; done) | simp [own, h])) ?_
                    rintro (h | h)
                    · exact hne h
                    · have := hS8.ne _ h
                      rcases ho' with h | h | h | h | h | h | h | h
                      all_goals first | (cases h; done) | omega
                  have hne := hS8.ok.ne
                  simp at hne
                  refine ⟨hS8.ok, ?_, hS8.b.of_block (hk _ (by simp [own]) (by omega)), hS8.a.of_block (hk _ (by simp [own]) (by omega)), hS8.l.of_block (hk _ (by simp [own]) (by omega)), hS8.t.of_block (hk _ (by simp [own]) (by omega)), hS8.r.of_block (hk _ (by simp [own]) (by omega)), hS8.ws.of_block (hk _ (by simp [own]) (by omega)), hS8.mb, hS8.ma, ?_, hS8.cf, ?_⟩
                  · exact hrow.congr fun j _ => rfl
                  · have : trailCells (s8.tr ++ [L.toNat]) = trailCells s8.tr ++ [Value.int .i32 L] := by
                      have hLt : ((L.toNat : Nat) : Int) = L := Int.toNat_of_nonneg hbd.1
                      simp [trailCells, hLt]
                    rw [this, List.length_append]
                    exact ho
                  · intro g' hg'
                    obtain rfl : gg = g' := by simpa [Value.ownBlock] using hg'
                    rcases hat with h | h
                    · exact hS8.ne _ h
                    · have h1 := hS8.p.lt; have h2 := hS8.b.lt; have h3 := hS8.a.lt; have h4 := hS8.l.lt; have h5 := hS8.t.lt; have h6 := hS8.r.lt; have h7 := hS8.ws.lt
                      omega
                have hKf : Keeps (own c s.tv.ownBlock) w wx := hK8.trans gK (fun j _ h => by rcases h with h | h; exact Or.inl h; exact Or.inr (Or.inr (Or.inr (Or.inr (Or.inr (Or.inr (Or.inr (by rw [← htv8.out]; exact h))))))))
                have hnew : newer w s.tv (.slice (some ⟨gg, 0, none⟩) (s8.tr.length + 1) cap) := by
                  rcases hat with h | h
                  · exact Or.inl (by rw [← htv8.out, h]; rfl)
                  · exact Or.inr ⟨gg, rfl, by have := hK8.size; omega⟩
                rw [HLn.out] at hfin
                have HF : Hid (_) := hfin
                have HN : Hid (_) := hnew
                have HKf : Hid (_) := hKf
                clear hfin hnew hKf
                obtain ⟨g, hg⟩ : ∃ g : Nat → Value, ∀ t, b.tmps[t]?.getD undef = g t := ⟨_, fun _ => rfl⟩
                rw [lit133 b g hg hsz hds]
                clear hg hsz hds
                go_wp2_with fail
                go_ret
                have hF := HF.out
                rw [hsd8.out, hsd.out] at hF
                exact ⟨rfl, ⟨_, _, _, hF, by have := HN.out; exact this⟩, HKf.out⟩
end Go.Proofs.YbulkbnbgDoor.Pr
