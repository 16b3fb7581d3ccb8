/-
  'catchUp' (function 7): the arcs of a graph.
-/
import Derived.Test.YbulkbnbgDoorPropAny
namespace Go.Proofs.YbulkbnbgDoor.Pr
set_option linter.unusedSimpArgs false
open Go.ChangeShapes Go.WideShapes Go.ChangeAt Go.RowKit

theorem lit52 (b : Act) (g : Nat → Value) (hg : ∀ t, b.tmps[t]?.getD undef = g t) (hN : b.tmps.size = 52) (hd : b.defers = []) : b = { tmps := (g 0 :: g 1 :: g 2 :: g 3 :: g 4 :: g 5 :: g 6 :: g 7 :: g 8 :: g 9 :: g 10 :: g 11 :: g 12 :: g 13 :: g 14 :: g 15 :: g 16 :: g 17 :: g 18 :: g 19 :: g 20 :: g 21 :: g 22 :: g 23 :: g 24 :: g 25 :: g 26 :: g 27 :: g 28 :: g 29 :: g 30 :: g 31 :: g 32 :: g 33 :: g 34 :: g 35 :: g 36 :: g 37 :: g 38 :: g 39 :: g 40 :: g 41 :: g 42 :: g 43 :: g 44 :: g 45 :: g 46 :: g 47 :: g 48 :: g 49 :: g 50 :: g 51 :: []).toArray, defers := [] } := by
  obtain ⟨tm, df⟩ := b
  obtain rfl : df = [] := hd
  obtain rfl : (fun t => tm[t]?.getD undef) = g := funext hg
  exact congrArg (fun x => Act.mk x []) (tmps_eq hN)

/-- A row's slice, by its place. -/
theorem own_shape {w : World} {v : Value} {xs : List Nat} (h : w.ownsRow 0 21 1 v xs.length (trailCells xs)) : ∃ ao cap, v = .slice ao xs.length cap ∧ ∀ i l : Nat, xs[i]? = some l → ∃ g, ao = some ⟨g, 0, none⟩ ∧ v.ownBlock = some g ∧ w.cell? ⟨g, i, none⟩ = some (.int .i32 (l : Int)) := by
  rcases h.2 with ⟨hv, hx⟩ | ⟨g, cap, cur, hv, _⟩
  · refine ⟨none, 0, by rw [hv, hx], fun i l hl => ?_⟩
    have hi : i < xs.length := (List.getElem?_eq_some_iff.1 hl).1
    omega
  · refine ⟨_, cap, hv, fun i l hl => ⟨g, rfl, by rw [hv]; rfl, ?_⟩⟩
    have hi : i < xs.length := (List.getElem?_eq_some_iff.1 hl).1
    have ho := h
    rw [hv] at ho
    rw [ho.cellAt i (by omega)]
    simp [trailCells, hl]

/-- THE GRAPH IN MEMORY: its rows of successors. -/
structure Gr (n : Nat) (adj : Nat → List Nat) (gB S : Nat) (sv : Nat → Value) (w : World) : Prop where
  g : w.cell? ⟨gB, 0, none⟩ = some (.slice (some ⟨S, 0, none⟩) n n)
  row : w.rowIs S 38 n sv
  sub : ∀ u, u < n → w.ownsRow 0 21 1 (sv u) (adj u).length (trailCells (adj u))
  lt : ∀ u v, u < n → v ∈ adj u → v < n ∧ u ≠ v
  len : ∀ u, u < n → (adj u).length ≤ 4096
  ne : gB ≠ S
  sep : ∀ u k, u < n → (sv u).ownBlock = some k → k ≠ gB ∧ k ≠ S ∧ ∀ u', u' < n → (sv u').ownBlock = some k → u' = u

def gblk (n gB S : Nat) (sv : Nat → Value) (k : Nat) : Prop := k = gB ∨ k = S ∨ ∃ u, u < n ∧ (sv u).ownBlock = some k

theorem Gr.lt_size {n : Nat} {adj : Nat → List Nat} {gB S : Nat} {sv : Nat → Value} {w : World} (h : Gr n adj gB S sv w) (k : Nat) (hk : gblk n gB S sv k) : k < w.heap.size := by
  rcases hk with rfl | rfl | ⟨u, hu, hk⟩
  · exact World.block_lt_of_cell? w _ h.g
  · exact h.row.lt
  · exact ownsRow_lt (h.sub u hu) k hk
theorem Gr.of_block {n : Nat} {adj : Nat → List Nat} {gB S : Nat} {sv : Nat → Value} {w w' : World} (h : Gr n adj gB S sv w) (hb : ∀ k, gblk n gB S sv k → w'.heap[k]? = w.heap[k]?) : Gr n adj gB S sv w' :=
  ⟨by rw [World.cell?_of_block (hb gB (Or.inl rfl))]; exact h.g, h.row.of_block (hb S (Or.inr (Or.inl rfl))), fun u hu => ownsRow_of_block (h.sub u hu) fun g hg => hb g (Or.inr (Or.inr ⟨u, hu, hg⟩)), h.lt, h.len, h.ne, h.sep⟩
theorem Gr.keeps {n : Nat} {adj : Nat → List Nat} {gB S : Nat} {sv : Nat → Value} {w w' : World} (h : Gr n adj gB S sv w) {D : Nat → Prop} (hk : Keeps D w w') (hD : ∀ k, gblk n gB S sv k → ¬ D k) : Gr n adj gB S sv w' :=
  h.of_block fun k hb => hk.block k (h.lt_size k hb) (hD k hb)

/-- The search, all drawn. -/
structure Live (c : Cfg) (T : Nat → Nat → Prop) (s : PS) (w : World) : Prop where
  st : St c s w
  inv : Inv c T s
  tab : Tab w
  pos : Pos c s
  hd : s.head = s.tr.length
  ok : s.broken = false

/-- Where 'catchUp' stands: the arcs in 'done' hold, or all is broken. -/
def CS (c : Cfg) (T : Nat → Nat → Prop) (s0 : PS) (w0 : World) (done : Nat → Nat → Prop) (w : World) : Prop :=
  (∃ s, Live c T s w ∧ Fr c s0 w0 s w ∧ ∀ x y, done x y → R c s.Mb x y = true) ∨
  ((∃ x, T x x) ∧ (∃ s', w.rowIs c.P 51 34 (pcell c s') ∧ s'.broken = true) ∧ Keeps (own c s0.tv.ownBlock) w0 w)

theorem CS.p {c : Cfg} {T : Nat → Nat → Prop} {s0 : PS} {w0 : World} {done : Nat → Nat → Prop} {w : World} (h : CS c T s0 w0 done w) : ∃ s, w.rowIs c.P 51 34 (pcell c s) ∧ Keeps (own c s0.tv.ownBlock) w0 w := by
  rcases h with ⟨s, hL, hF, _⟩ | ⟨_, ⟨s, hp, _⟩, hK⟩
  · exact ⟨s, hL.st.p, hF.1⟩
  · exact ⟨s, hp, hK⟩
theorem CS.mono {c : Cfg} {T : Nat → Nat → Prop} {s0 : PS} {w0 : World} {done done' : Nat → Nat → Prop} {w : World} (h : CS c T s0 w0 done w) (hd : ∀ x y, done' x y → done x y) : CS c T s0 w0 done' w := by
  rcases h with ⟨s, hL, hF, hR⟩ | h
  · exact .inl ⟨s, hL, hF, fun x y hxy => hR x y (hd x y hxy)⟩
  · exact .inr h

theorem pcell_broken (c : Cfg) (s : PS) (x : Bool) (j : Nat) : (if j = 33 then .bool x else pcell c s j) = pcell c { s with broken := x } j := by
  unfold pcell
  by_cases e : j = 33
  · subst e; simp
  · rw [if_neg e]; simp [e]

theorem back_any (c : Cfg) (s : PS) (w : World) (hP : w.rowIs c.P 51 34 (pcell c s)) :
    Calls Ybad.prog 10 #[.pointer (some ⟨c.P, 0, none⟩), .int .i64 0] w fun e w' => e = .returned (.tuple #[]) ∧ w' = w := by
  have HP : Hid (_) := hP
  clear hP
  go_enter Ybad.func10, Ybad.ntmps10
  go_wp2_with fail
  refine (depth_any c s w HP.out).mono ?_
  rintro e w' ⟨rfl, rfl⟩
  go_wp2_with fail
  go_returns
  exact ⟨rfl, rfl⟩

/-- The arcs of the rows before u, and of row u the first i. -/
def Dn (adj : Nat → List Nat) (u i : Nat) (x y : Nat) : Prop := (x < u ∧ y ∈ adj x) ∨ (x = u ∧ y ∈ (adj u).take i)

def Fc2 (c : Cfg) (S : Nat) (v : Value) (len u i : Nat) (f : Act) : Prop :=
  f.tmps.size = 52 ∧ f.defers = [] ∧ f.tmps[0]?.getD undef = .pointer (some ⟨c.P, 0, none⟩) ∧ f.tmps[4]?.getD undef = .int .i64 (u : Int) ∧ f.tmps[13]?.getD undef = .slice (some ⟨S, 0, none⟩) c.n c.n ∧ f.tmps[14]?.getD undef = .int .i64 (c.n : Int) ∧
  f.tmps[15]?.getD undef = .int .i64 (u : Int) ∧ f.tmps[20]?.getD undef = v ∧ f.tmps[21]?.getD undef = .int .i64 (len : Int) ∧ f.tmps[22]?.getD undef = .int .i64 (i : Int)

def C2 (c : Cfg) (T : Nat → Nat → Prop) (s0 : PS) (w0 : World) (adj : Nat → List Nat) (S : Nat) (sv : Nat → Value) (u : Nat) (n : Nat) (f : Act) (w : World) : Prop :=
  ∃ i, i ≤ (adj u).length ∧ n = (adj u).length - i ∧ Fc2 c S (sv u) (adj u).length u i f ∧ CS c T s0 w0 (Dn adj u i) w

set_option maxRecDepth 100000 in
set_option maxHeartbeats 2000000 in
theorem catch2 {Q : Exit → Act → World → Prop} (c : Cfg) (hok : c.Ok) (T : Nat → Nat → Prop) (htrans : ∀ x y z, T x y → T y z → T x z) (s0 : PS) (w0 : World) (adj : Nat → List Nat) (gB S : Nat) (sv : Nat → Value) (hG : Gr c.n adj gB S sv w0) (hD : ∀ k, gblk c.n gB S sv k → ¬ own c s0.tv.ownBlock k)
    (hT : ∀ u v, u < c.n → v ∈ adj u → T u v) (u : Nat) (hu : u < c.n) (f : Act) (w : World) (hF : Fc2 c S (sv u) (adj u).length u 0 f) (hC : CS c T s0 w0 (Dn adj u 0) w)
    (hnext : ∀ f' w', Fc2 c S (sv u) (adj u).length u (adj u).length f' → CS c T s0 w0 (Dn adj u (adj u).length) w' → Q (.exit 2) f' w')
    (hret : ∀ f' w', f'.tmps.size = 52 → f'.defers = [] → CS c T s0 w0 (fun x y => x < c.n ∧ y ∈ adj x) w' → Q .ret f' w') :
    Code.wp Ybad.prog ((Ybad.f7.body.bind (blk 2)).getD .skip) Q f w := by
  conv => arg 2; whnf
  refine wp_loop_ghost (C2 c T s0 w0 adj S sv u) (adj u).length ⟨0, Nat.zero_le _, rfl, hF, hC⟩ ?_
  rintro n f w ⟨i, hil, rfl, ⟨hsz, hds, e0, e4, e13, e14, e15, e20, e21, e22⟩, hC⟩
  obtain ⟨g, hg⟩ : ∃ g : Nat → Value, ∀ t, f.tmps[t]?.getD undef = g t := ⟨_, fun _ => rfl⟩
  obtain ⟨ao, cap, hv, hcell⟩ := own_shape (hG.sub u hu)
  have hlen := hG.len u hu
  have hn2 := hok.n80
  rw [hg] at e0 e4 e13 e14 e15 e20 e21 e22
  rw [hv] at e20
  rw [lit52 f g hg hsz hds, e0, e4, e13, e14, e15, e20, e21, e22]
  clear hg hsz hds e0 e4 e13 e14 e15 e20 e21 e22 hF
  by_cases hlt : i < (adj u).length
  · obtain ⟨v, hvi⟩ : ∃ v, (adj u)[i]? = some v := ⟨_, List.getElem?_eq_getElem hlt⟩
    obtain ⟨gk, rfl, hob, hcl⟩ := hcell i v hvi
    obtain ⟨hvn, huv⟩ := hG.lt u v hu (List.mem_of_getElem? hvi)
    have hTuv := hT u v hu (List.mem_of_getElem? hvi)
    have hI0 : (0 : Int) ≤ (i : Int) := by omega
    have hI1 : (i : Int) < ((adj u).length : Int) := by omega
    obtain ⟨sx, hpx, hKx⟩ := hC.p
    have hgo : gblk c.n gB S sv gk := Or.inr (Or.inr ⟨u, hu, hob⟩)
    have hclw : w.cell? ⟨gk, i, none⟩ = some (.int .i32 (v : Int)) := by
      rw [World.cell?_of_block (hKx.block gk (hG.lt_size gk hgo) (hD gk hgo))]; exact hcl
    have hbdl := lit_bd (L := (u : Int) * (c.n : Int) + (v : Int)) rfl hu hvn hn2
    have hz0 : (0 : Int) ≤ (u : Int) * (c.n : Int) := by exact_mod_cast Nat.zero_le _
    have hDn : ∀ x y, Dn adj u (i + 1) x y → Dn adj u i x y ∨ (x = u ∧ y = v) := by
      rintro x y (h | ⟨rfl, h⟩)
      · exact .inl (.inl h)
      · rw [List.take_add_one, List.mem_append] at h
        rcases h with h | h
        · exact .inl (.inr ⟨rfl, h⟩)
        · rw [hvi] at h; exact .inr ⟨rfl, by simpa using h⟩
    clear hcl hcell hpx hKx
    rcases hC with ⟨s, hL, hFr, hR⟩ | hDead
    · have h0 := pc0 hL.st.p
      have h33 := pc33 hL.st.p
      rw [hL.ok] at h33
      have HL : Hid (_) := hL
      have HFr : Hid (Fr c s0 w0 s w) := hFr
      have HR : Hid (_) := hR
      clear hL hFr hR
      go_wp2_with fail
      refine (set_any c T s _ s.head HL.out.st HL.out.inv htrans _ _ u v rfl hu hvn huv hTuv (Or.inl rfl)).mono ?_
      rintro e w2 (⟨rfl, s', hS', hI', hE', hR', hF'⟩ | ⟨rfl, hcy, hwk, hkp⟩)
      · have hI2 : Inv c T s' := by
          have := hE'.head
          exact ⟨hI'.1, hI'.2, hI'.3, hI'.4, hI'.5, hI'.6, hI'.7, hI'.8, by rw [this]; exact hI'.9, by rw [this]; exact hI'.10⟩
        have h0t := World.block_lt_of_cell? w _ (HL.out.tab 0 (by omega))
        have hT2 : Tab w2 := HL.out.tab.keeps hF'.1 (fun h0 => HL.out.pos.own 0 h0 rfl)
        have hP2 : Pos c s' := HL.out.pos.fr hF' (by simp at h0t; omega)
        have HS2 : Hid (_) := hS'
        have HF2 : Hid (Fr c s0 w0 s' w2) := HFr.out.trans hF'
        have HR2 : Hid (∀ x y, Dn adj u (i + 1) x y → y < c.n → R c s'.Mb x y = true) := fun x y hxy hy => by
          rcases hDn x y hxy with h | ⟨rfl, rfl⟩
          · exact hE'.mono _ _ hy (HR.out x y h)
          · exact hR'
        have hbr2 : s'.broken = false := hE'.broken.trans HL.out.ok
        clear hS' hI' hE' hR' hF' h0t
        have HI2 : Hid (_) := hI2
        have HT2 : Hid (_) := hT2
        have HP2 : Hid (_) := hP2
        clear hI2 hT2 hP2
        go_wp2_with fail
        refine (prop_any c T htrans s' _ HS2.out HI2.out HT2.out HP2.out).mono ?_
        rintro e w3 (⟨rfl, s3, hM, hh⟩ | ⟨rfl, hB⟩)
        · have hf33 := hM.st.p.frozen 33
          have h33' := pc33 hM.st.p
          have HN : Hid (CS c T s0 w0 (Dn adj u (i + 1)) (w3.setCell ⟨c.P, 33, none⟩ (.bool false))) := by
            have hK3 : Keeps (own c s3.tv.ownBlock) w3 (w3.setCell ⟨c.P, 33, none⟩ (.bool false)) := (Keeps.refl _ _).setCell (fun _ => by simp [own]) _
            refine .inl ⟨{ s3 with broken := false }, ⟨hM.st.setP (s' := { s3 with broken := false }) 33 _ (pcell_broken c s3 false) rfl rfl rfl rfl rfl rfl rfl, ⟨hM.inv.1, hM.inv.2, hM.inv.3, hM.inv.4, hM.inv.5, hM.inv.6, hM.inv.7, hM.inv.8, hM.inv.9, hM.inv.10⟩, hM.tab.keeps hK3 (fun h0 => hM.pos.own 0 h0 rfl), ⟨hM.pos.1, hM.pos.2⟩, hh, rfl⟩, ?_, ?_⟩
            · exact (HF2.out.trans hM.fr).trans ⟨hK3, Or.inl rfl⟩
            · intro x y hxy
              have hy : y < c.n := by
                rcases hxy with ⟨hx, hy⟩ | ⟨rfl, hy⟩
                · exact (hG.lt x y (by omega) hy).1
                · exact (hG.lt x y hu (List.mem_of_mem_take hy)).1
              exact hM.ext.mono _ _ hy (HR2.out x y hxy hy)
          clear hM
          go_wp2_with fail
          refine ⟨(adj u).length - (i + 1), by omega, i + 1, by omega, rfl, ⟨rfl, rfl, rfl, rfl, rfl, rfl, rfl, hv.symm, rfl, by first | rfl | go_num⟩, HN.out⟩
        · obtain ⟨hcy, ⟨s4, hp4⟩, hK4⟩ := hB
          have hf33 := hp4.frozen 33
          have h33' := pc33 hp4
          have HN : Hid (CS c T s0 w0 (Dn adj u (i + 1)) (w3.setCell ⟨c.P, 33, none⟩ (.bool true))) :=
            .inr ⟨hcy, ⟨{ s4 with broken := true }, (hp4.set 33 (.bool true)).congr fun i _ => pcell_broken c s4 true i, rfl⟩, (HF2.out.keeps hK4).setCell (fun _ => by simp [own]) _⟩
          clear hp4 hK4
          go_wp2_with fail
          refine ⟨(adj u).length - (i + 1), by omega, i + 1, by omega, rfl, ⟨rfl, rfl, rfl, rfl, rfl, rfl, rfl, hv.symm, rfl, by first | rfl | go_num⟩, HN.out⟩
      · obtain ⟨s4, hp4⟩ := hwk
        have hf33 := hp4.frozen 33
        have h33' := pc33 hp4
        have HN : Hid (CS c T s0 w0 (Dn adj u (i + 1)) (w2.setCell ⟨c.P, 33, none⟩ (.bool true))) :=
          .inr ⟨hcy, ⟨{ s4 with broken := true }, (hp4.set 33 (.bool true)).congr fun i _ => pcell_broken c s4 true i, rfl⟩, (HFr.out.keeps hkp).setCell (fun _ => by simp [own]) _⟩
        clear hp4 hkp
        go_wp2_with fail
        refine ⟨(adj u).length - (i + 1), by omega, i + 1, by omega, rfl, ⟨rfl, rfl, rfl, rfl, rfl, rfl, rfl, hv.symm, rfl, by first | rfl | go_num⟩, HN.out⟩
    · obtain ⟨hcy, ⟨s', hp, hbr⟩, hK⟩ := hDead
      have h33 := pc33 hp
      rw [hbr] at h33
      have HC : Hid (CS c T s0 w0 (fun x y => x < c.n ∧ y ∈ adj x) w) := .inr ⟨hcy, ⟨s', hp, hbr⟩, hK⟩
      clear hp hK
      go_wp2_with fail
      exact hret _ _ rfl rfl HC.out
  · obtain rfl : i = (adj u).length := by omega
    have HC : Hid (_) := hC
    clear hC
    have hI1 : ¬ ((adj u).length : Int) < ((adj u).length : Int) := by omega
    rw [hv] at hnext
    go_wp2_with fail
    exact hnext _ _ ⟨rfl, rfl, rfl, rfl, rfl, rfl, rfl, rfl, rfl, rfl⟩ HC.out

def Fc1 (c : Cfg) (S : Nat) (u : Nat) (f : Act) : Prop :=
  f.tmps.size = 52 ∧ f.defers = [] ∧ f.tmps[0]?.getD undef = .pointer (some ⟨c.P, 0, none⟩) ∧ f.tmps[13]?.getD undef = .slice (some ⟨S, 0, none⟩) c.n c.n ∧ f.tmps[14]?.getD undef = .int .i64 (c.n : Int) ∧ f.tmps[15]?.getD undef = .int .i64 (u : Int)

def C1 (c : Cfg) (T : Nat → Nat → Prop) (s0 : PS) (w0 : World) (adj : Nat → List Nat) (S : Nat) (n : Nat) (f : Act) (w : World) : Prop :=
  ∃ u, u ≤ c.n ∧ n = c.n - u ∧ Fc1 c S u f ∧ CS c T s0 w0 (Dn adj u 0) w

set_option maxRecDepth 100000 in
theorem ret7 {P : Ending → World → Prop} (f' : Act) (w' : World) (e1 : f'.tmps.size = 52) (e2 : f'.defers = []) (h : P (.returned (.tuple #[])) w') : bodyPost Ybad.prog Ybad.f7 P Exit.ret f' w' := by
  obtain ⟨g', hg'⟩ : ∃ g : Nat → Value, ∀ t, f'.tmps[t]?.getD undef = g t := ⟨_, fun _ => rfl⟩
  rw [lit52 f' g' hg' e1 e2]
  clear hg' e1 e2
  go_returns
  exact h

set_option maxRecDepth 100000 in
set_option maxHeartbeats 2000000 in
/-- 'catchUp': AFTERWARDS EACH ARC OF THE GRAPH HOLDS, AND ALL THAT FOLLOWS; OR ALL IS BROKEN. -/
theorem catch_any (c : Cfg) (hok : c.Ok) (T : Nat → Nat → Prop) (htrans : ∀ x y z, T x y → T y z → T x z) (s0 : PS) (w0 : World) (adj : Nat → List Nat) (gB S : Nat) (sv : Nat → Value) (hG : Gr c.n adj gB S sv w0) (hD : ∀ k, gblk c.n gB S sv k → ¬ own c s0.tv.ownBlock k)
    (hT : ∀ u v, u < c.n → v ∈ adj u → T u v) (w : World) (hC : CS c T s0 w0 (fun _ _ => False) w) :
    Calls Ybad.prog 7 #[.pointer (some ⟨c.P, 0, none⟩), .pointer (some ⟨gB, 0, none⟩)] w fun e w' => e = .returned (.tuple #[]) ∧ CS c T s0 w0 (fun x y => x < c.n ∧ y ∈ adj x) w' := by
  obtain ⟨sx, hpx, hKx⟩ := hC.p
  have hcg : w.cell? ⟨gB, 0, none⟩ = some (.slice (some ⟨S, 0, none⟩) c.n c.n) := by
    rw [World.cell?_of_block (hKx.block gB (hG.lt_size gB (Or.inl rfl)) (hD gB (Or.inl rfl)))]; exact hG.g
  have HP : Hid (_) := hpx
  clear hpx hKx
  go_enter Ybad.func7, Ybad.ntmps7
  go_wp2_with fail
  refine (back_any c sx w HP.out).mono ?_
  rintro e w' ⟨rfl, rfl⟩
  clear HP
  go_wp2_with fail
  refine wp_loop_ghost (C1 c T s0 w0 adj S) c.n ⟨0, Nat.zero_le _, rfl, ⟨rfl, rfl, rfl, rfl, rfl, rfl⟩, hC.mono ?_⟩ ?_
  · rintro x y (⟨h, _⟩ | ⟨_, h⟩)
    · omega
    · simp at h
  clear hcg hC
  rintro n f w ⟨u, hun, rfl, ⟨hsz, hds, e0, e13, e14, e15⟩, hC⟩
  obtain ⟨g, hg⟩ : ∃ g : Nat → Value, ∀ t, f.tmps[t]?.getD undef = g t := ⟨_, fun _ => rfl⟩
  have hn2 := hok.n80
  rw [hg] at e0 e13 e14 e15
  rw [lit52 f g hg hsz hds, e0, e13, e14, e15]
  clear hg hsz hds e0 e13 e14 e15
  by_cases hlt : u < c.n
  · have hI0 : (0 : Int) ≤ (u : Int) := by omega
    have hI1 : (u : Int) < (c.n : Int) := by omega
    obtain ⟨sx, hpx, hKx⟩ := hC.p
    obtain ⟨ao, cap, hv, -⟩ := own_shape (hG.sub u hlt)
    have hcu : w.cell? ⟨S, u, none⟩ = some (sv u) := by
      rw [World.cell?_of_block (hKx.block S (hG.lt_size S (Or.inr (Or.inl rfl))) (hD S (Or.inr (Or.inl rfl))))]; exact hG.row.cell hlt
    rw [hv] at hcu
    clear hpx hKx
    have HC : Hid (_) := hC
    clear hC
    go_wp2_with fail
    refine catch2 (Q := _) c hok T htrans s0 w0 adj gB S sv hG hD hT u hlt _ _ ⟨rfl, rfl, rfl, rfl, rfl, rfl, rfl, hv.symm, rfl, rfl⟩ HC.out ?_ ?_
    · rintro f' w' ⟨hsz, hds, e0, e4, e13, e14, e15, e20, e21, e22⟩ hC'
      obtain ⟨g', hg'⟩ : ∃ g : Nat → Value, ∀ t, f'.tmps[t]?.getD undef = g t := ⟨_, fun _ => rfl⟩
      rw [hg'] at e0 e13 e14 e15
      rw [lit52 f' g' hg' hsz hds, e0, e13, e14, e15]
      clear hg' hsz hds e0 e4 e13 e14 e15 e20 e21 e22 hcu HC
      have HC : Hid (CS c T s0 w0 (Dn adj (u + 1) 0) w') := hC'.mono (by
        rintro x y (⟨h1, h2⟩ | ⟨_, h2⟩)
        · by_cases e : x = u
          · subst e; exact .inr ⟨rfl, by rwa [List.take_length]⟩
          · exact .inl ⟨by omega, h2⟩
        · simp at h2)
      clear hC'
      go_wp2_with fail
      exact ⟨c.n - (u + 1), by omega, u + 1, by omega, rfl, ⟨rfl, rfl, rfl, rfl, rfl, by first | rfl | go_num⟩, HC.out⟩
    · intro f' w' e1 e2 hC'
      exact ret7 (P := fun e w' => e = .returned (.tuple #[]) ∧ CS c T s0 w0 (fun x y => x < c.n ∧ y ∈ adj x) w') f' w' e1 e2 ⟨rfl, hC'⟩
  · obtain rfl : u = c.n := by omega
    have hI1 : ¬ (c.n : Int) < (c.n : Int) := by omega
    have HC : Hid (CS c T s0 w0 (fun x y => x < c.n ∧ y ∈ adj x) w) := CS.mono hC fun x y h => .inl h
    clear hC
    go_wp2_with fail
    go_returns
    exact ⟨rfl, HC.out⟩
end Go.Proofs.YbulkbnbgDoor.Pr
