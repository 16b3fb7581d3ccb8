/-
  The staircase's 'add' (function 30), whole.
-/
import Derived.Test.YbulkbnbuF47
import Derived.Test.YbulkbnbuBs
namespace Go.Proofs.Ybulkbnbu.Kn
set_option linter.unusedSimpArgs false
set_option linter.unusedVariables false
open Go.ChangeShapes Go.WideShapes Go.ChangeAt Go.RowKit
open Go.Proofs.Ybulkbnbu.Fl

/-- Where the sweep begins. -/
def st0 (xs us sw : List Nat) (s : Nat) : SM :=
  ⟨xs.countP (fun y => decide (y < s)), us.getD (xs.countP (fun y => decide (y < s)) - 1) 0, 0, us.getD (xs.countP (fun y => decide (y < s)) - 1) 0, false, xs.take (xs.countP (fun y => decide (y < s))), us.take (xs.countP (fun y => decide (y < s))), sw⟩
/-- What 'add' makes of a staircase. -/
def added (xs us sw : List Nat) (s v : Nat) : SM := sweep (fun j => xs.getD j 0) (fun j => us.getD j 0) xs.length s v xs.length (st0 xs us sw s)

theorem row_two (w : World) (t : TypeId) (a b : Value) : (w.alloc (.cells #[a, b] t)).rowIs w.heap.size t 2 (fun j => if j = 0 then a else b) :=
  World.rowIs_alloc w #[a, b] t _ (fun i hi => by
    have : i = 0 ∨ i = 1 := by simp at hi; omega
    rcases this with rfl | rfl <;> rfl)
/-- The four boxes. -/
structure Bx4 (w w4 : World) (a5 c5 a6 c6 a8 c8 : Value) : Prop where
  k50 : w4.cell? ⟨w.heap.size, 0, none⟩ = some a5
  k51 : w4.cell? ⟨w.heap.size, 1, none⟩ = some c5
  k60 : w4.cell? ⟨w.heap.size + 1, 0, none⟩ = some a6
  k61 : w4.cell? ⟨w.heap.size + 1, 1, none⟩ = some c6
  k80 : w4.cell? ⟨w.heap.size + 2, 0, none⟩ = some a8
  k81 : w4.cell? ⟨w.heap.size + 2, 1, none⟩ = some c8
  res : w4.rowIs (w.heap.size + 3) 56 2 (fun _ => .slice none 0 0)
  keeps : Keeps (fun _ => False) w w4
  size : w4.heap.size = w.heap.size + 4
theorem bx4 (w : World) (a5 c5 a6 c6 a8 c8 : Value) : Bx4 w ((((w.alloc (.cells #[a5, c5] 56)).alloc (.cells #[a6, c6] 28)).alloc (.cells #[a8, c8] 56)).alloc (.cells #[.slice none 0 0, .slice none 0 0] 56)) a5 c5 a6 c6 a8 c8 := by
  have r5 := (((row_two w 56 a5 c5).alloc (.cells #[a6, c6] 28)).alloc (.cells #[a8, c8] 56)).alloc (.cells #[.slice none 0 0, .slice none 0 0] 56)
  have r6 := ((row_two (w.alloc (.cells #[a5, c5] 56)) 28 a6 c6).alloc (.cells #[a8, c8] 56)).alloc (.cells #[.slice none 0 0, .slice none 0 0] 56)
  have r8 := (row_two ((w.alloc (.cells #[a5, c5] 56)).alloc (.cells #[a6, c6] 28)) 56 a8 c8).alloc (.cells #[.slice none 0 0, .slice none 0 0] 56)
  have r10 := row_two (((w.alloc (.cells #[a5, c5] 56)).alloc (.cells #[a6, c6] 28)).alloc (.cells #[a8, c8] 56)) 56 (.slice none 0 0) (.slice none 0 0)
  simp only [World.size_alloc] at r6 r8 r10
  refine ⟨by simpa using r5.cell (i := 0) (by omega), by simpa using r5.cell (i := 1) (by omega), by simpa using r6.cell (i := 0) (by omega), by simpa using r6.cell (i := 1) (by omega), by simpa using r8.cell (i := 0) (by omega), by simpa using r8.cell (i := 1) (by omega), r10.congr (fun j _ => by simp), ((((Keeps.refl _ w).alloc _).alloc _).alloc _).alloc _, by simp⟩

theorem Bx4.drewN {w w4 : World} {a5 c5 a6 c6 a8 c8 : Value} (h : Bx4 w w4 a5 c5 a6 c6 a8 c8) (n : Nat) : Bx4 w (w4.drewN n) a5 c5 a6 c6 a8 c8 := ⟨h.k50, h.k51, h.k60, h.k61, h.k80, h.k81, h.res, h.keeps.drewN n, h.size⟩
/-- The storage lies ready. -/
structure Rdy (B : Nat) (w w' : World) (hb gs gv cs cv : Nat) (a6 c6 : Value) (n0 n1 : Nat) (xs us : List Nat) : Prop where
  out : Out B w' hb gs gv cs cv n0 n1 xs us
  keeps : Keeps (fun _ => False) w w'
  it0 : w'.cell? ⟨w.heap.size + 1, 0, none⟩ = some a6
  it1 : w'.cell? ⟨w.heap.size + 1, 1, none⟩ = some c6
  res : w'.rowIs (w.heap.size + 3) 56 2 (fun _ => .slice none 0 0)
  size : w.heap.size + 4 ≤ w'.heap.size
theorem Rdy.grew {B : Nat} {w w6 w7 : World} {hb gs gv cs cv : Nat} {a6 c6 : Value} {n0 n1 : Nat} {xs us : List Nat} {A C : Prop} (h : Rdy B w w6 hb gs gv cs cv a6 c6 n0 n1 xs us) (hc : (A ∧ w7 = w6) ∨ (C ∧ ∃ o, w7 = w6.drew.alloc o)) : Rdy B w w7 hb gs gv cs cv a6 c6 n0 n1 xs us := by
  rcases hc with ⟨_, rfl⟩ | ⟨_, o, rfl⟩
  · exact h
  · have key : ∀ {a : Addr} {u : Value}, w6.cell? a = some u → (w6.drew.alloc o).cell? a = some u := fun {a u} hc => by
      rw [World.cell?_of_block (w := w6) (Below.heap_alloc w6.drew _ _ (World.block_lt_of_cell? w6 _ hc))]; exact hc
    exact ⟨h.out.drew.alloc o, h.keeps.drew.alloc o, key h.it0, key h.it1, (World.rowIs.drew h.res).alloc o, by have := h.size; simp; omega⟩
theorem Rdy.drewN {B : Nat} {w w6 : World} {hb gs gv cs cv : Nat} {a6 c6 : Value} {n0 n1 : Nat} {xs us : List Nat} (h : Rdy B w w6 hb gs gv cs cv a6 c6 n0 n1 xs us) (n : Nat) : Rdy B w (w6.drewN n) hb gs gv cs cv a6 c6 n0 n1 xs us :=
  ⟨⟨h.out.hdr, h.out.rs, h.out.rv, trivial⟩, h.keeps.drewN n, h.it0, h.it1, h.res, h.size⟩
theorem ownsRow_drewN {w : World} {B e n : Nat} {v : Value} {xs : List Value} (h : w.ownsRow B e 1 v n xs) (k : Nat) : (w.drewN k).ownsRow B e 1 v n xs := h
theorem growIL (B : Nat) (a : Option Addr) (l cap L : Nat) (xs : List Value) (w : World) (hown : w.ownsRow B 3 1 (.slice a l cap) l xs) (hl : l ≤ 1000000) (hk0 : 0 < L) (hk : L ≤ 10000) (hB : B ≤ w.heap.size) :
    Calls Yba.prog 43 #[.slice a l cap, .int .i64 ((L : Int) + (L : Int))] w fun e w' => ∃ g c, e = .returned (.slice (some ⟨g, 0, none⟩) l c) ∧ w'.ownsRow B 3 1 (.slice (some ⟨g, 0, none⟩) l c) l xs ∧ l + (L + L) ≤ c ∧
      ((a = some ⟨g, 0, none⟩ ∧ w' = w) ∨ (g = w.heap.size ∧ ∃ o, w' = w.drew.alloc o)) :=
  growI B a l cap (L + L) xs w hown hl (by omega) (by omega) hB

set_option maxRecDepth 100000 in
set_option maxHeartbeats 8000000 in
theorem stair_any (B sz vz L cS cV s v room nS cdS nV cdV cW : Nat) (aS aV aW : Option Addr) (yS yV : List Value) (xs us sw : List Nat) (w : World) (hB : B ≤ w.heap.size)
    (hX : w.ownsRow B 3 1 (.slice (some ⟨sz, 0, none⟩) L cS) L (ints xs)) (hU : w.ownsRow B 26 1 (.slice (some ⟨vz, 0, none⟩) L cV) L (flts us)) (hdS : w.ownsRow B 3 1 (.slice aS nS cdS) nS yS) (hdV : w.ownsRow B 26 1 (.slice aV nV cdV) nV yV)
    (hsw : w.ownsRow B 3 1 (.slice aW sw.length cW) sw.length (ints sw)) (hL0 : 0 < L) (hL : L ≤ 100) (hxb : ∀ x ∈ xs, x < 1000) (hub : ∀ x ∈ us, x < 1000) (hv : v < 1000) (hs : s < 1000) (hs1 : 1 ≤ s) (hroom : room < 1000) (hswl : sw.length < 1000)
    (hsort : xs.Pairwise (· < ·)) (h0 : xs.getD 0 0 = 0) (hfit : ∀ x ∈ xs, x + s ≤ room) (d1 : aS ≠ some ⟨sz, 0, none⟩) (d2 : aW ≠ some ⟨sz, 0, none⟩) (d3 : ∀ g, aS = some ⟨g, 0, none⟩ → aW ≠ some ⟨g, 0, none⟩) (d4 : aV ≠ some ⟨vz, 0, none⟩)
    (hp : (added xs us sw s v).p = L) :
    Calls Yba.prog 30 #[.agg #[.slice (some ⟨sz, 0, none⟩) L cS, .slice (some ⟨vz, 0, none⟩) L cV], .agg #[.int .i64 (s : Int), .float .f64 (W v)], .int .i64 (room : Int), .agg #[.slice aS nS cdS, .slice aV nV cdV], .slice aW sw.length cW] w fun e w' => ∃ gs gv gw cs cv cw,
      e = .returned (.tuple #[.agg #[.slice (some ⟨gs, 0, none⟩) (added xs us sw s v).xs.length cs, .slice (some ⟨gv, 0, none⟩) (added xs us sw s v).us.length cv], .slice (some ⟨gw, 0, none⟩) (added xs us sw s v).sw.length cw]) ∧
      w'.ownsRow B 3 1 (.slice (some ⟨gs, 0, none⟩) (added xs us sw s v).xs.length cs) (added xs us sw s v).xs.length (ints (added xs us sw s v).xs) ∧ w'.ownsRow B 26 1 (.slice (some ⟨gv, 0, none⟩) (added xs us sw s v).us.length cv) (added xs us sw s v).us.length (flts (added xs us sw s v).us) ∧
      w'.ownsRow B 3 1 (.slice (some ⟨gw, 0, none⟩) (added xs us sw s v).sw.length cw) (added xs us sw s v).sw.length (ints (added xs us sw s v).sw) ∧ (aS = some ⟨gs, 0, none⟩ ∨ w.heap.size ≤ gs) ∧ (aV = some ⟨gv, 0, none⟩ ∨ w.heap.size ≤ gv) ∧ (aW = some ⟨gw, 0, none⟩ ∨ w.heap.size ≤ gw) ∧ gs ≠ gw ∧
      Keeps (fun k => aS = some ⟨k, 0, none⟩ ∨ aV = some ⟨k, 0, none⟩ ∨ aW = some ⟨k, 0, none⟩) w w' := by
  obtain ⟨x1, x2, x3, x4⟩ := own_cap hX
  obtain ⟨u1, u2, u3, u4⟩ := own_cap hU
  have xl : xs.length = L := by simpa [ints] using x3
  have ul : us.length = L := by simpa [flts] using u3
  have cX := own_ints hX
  have cU := own_flts hU
  have lsz := ownsRow_lt hX sz rfl
  have lvz := ownsRow_lt hU vz rfl
  have hcount : xs.countP (fun y => decide (y < room - s + 1)) = L := by
    rw [← xl, List.countP_eq_length]
    intro x hx
    have := hfit x hx
    simp; omega
  subst xl
  have HB : ∀ wx : World, Keeps (fun _ => False) w wx → Calls Yba.prog 36 #[.slice (some ⟨sz, 0, none⟩) xs.length cS, .int .i64 ((room : Int) - (s : Int) + 1)] wx fun e w' => (∃ b, e = .returned (.tuple #[.int .i64 (xs.length : Int), .bool b])) ∧ ∃ q, w' = wx.drewN q := fun wx hk => by
    have h := bs_nat sz 0 cS xs (room - s + 1) wx (fun j y hj => by rw [Nat.zero_add]; exact hk.cell (cX j y hj) (fun h => h)) hsort (by omega)
    have hle := hfit (xs.getD 0 0) (by rw [List.getD_eq_getElem?_getD, List.getElem?_eq_getElem hL0]; exact List.getElem_mem _)
    rw [hcount, show ((room - s + 1 : Nat) : Int) = (room : Int) - (s : Int) + 1 by omega] at h
    exact h.mono fun e w' ⟨h1, h2⟩ => ⟨⟨_, h1⟩, h2⟩
  have hrs : s ≤ room := by
    have := hfit (xs.getD 0 0) (by rw [List.getD_eq_getElem?_getD, List.getElem?_eq_getElem hL0]; exact List.getElem_mem _)
    omega
  have hBx := bx4 w (.slice (some ⟨sz, 0, none⟩) xs.length cS) (.slice (some ⟨vz, 0, none⟩) xs.length cV) (.int .i64 (s : Int)) (.float .f64 (W v)) (.slice aS nS cdS) (.slice aV nV cdV)
  have HX : Hid (_) := hX
  have HU : Hid (_) := hU
  have HdS : Hid (_) := hdS
  have HdV : Hid (_) := hdV
  have HSW : Hid (_) := hsw
  have HH : Hid (_) := HB
  have HC : Hid (_) := hcount
  have HD : Hid (_) := And.intro d1 (And.intro d2 (And.intro d3 d4))
  have HP : Hid (_) := hp
  have HM : Hid (_) := And.intro hxb (And.intro hub (And.intro hsort (And.intro h0 hfit)))
  have HCC : Hid (_) := And.intro cX cU
  clear hX hU hdS hdV hsw HB hcount d1 d2 d3 d4 hp hxb hub hsort h0 hfit cX cU
  go_enter Yba.func30, Yba.ntmps30
  go_wp2_with fail
  generalize ((((w.alloc (Obj.cells #[Value.slice (some ⟨sz, 0, none⟩) xs.length cS, Value.slice (some ⟨vz, 0, none⟩) xs.length cV] 56)).alloc (Obj.cells #[Value.int IntKind.i64 (s : Int), Value.float FloatKind.f64 (W v)] 28)).alloc (Obj.cells #[Value.slice aS nS cdS, Value.slice aV nV cdV] 56)).alloc (Obj.cells #[Value.slice none 0 0, Value.slice none 0 0] 56)) = w4 at *
  have k50 := hBx.k50
  have k51 := hBx.k51
  have k60 := hBx.k60
  have HBx : Hid (_) := hBx
  clear hBx
  go_quiet (fail)
  rename_i K1 hK1
  refine hK1 _ _ ?_
  clear hK1
  go_wp2_with (go_at_call 36; refine (HH.out _ (HBx.out.keeps.drewN nq)).mono ?_; rintro e w5 ⟨⟨b5, rfl⟩, q5, rfl⟩)
  rename_i K2 hK2
  have HBy : Hid (_) := HBx.out.drewN (nq + q5)
  clear HBx
  generalize w4.drewN (nq + q5) = w5 at *
  clear k50 k51 k60
  have mvN : ∀ {e n : Nat} {v : Value} {ys : List Value} {wx : World}, w.ownsRow B e 1 v n ys → Keeps (fun _ => False) w wx → wx.ownsRow B e 1 v n ys := fun ho hk => ownsRow_of_block ho (fun g hg => hk.block g (ownsRow_lt ho g hg) (fun h => h))
  have HMV : Hid (_) := @mvN
  clear mvN
  refine r3 B (w.heap.size + 1 + 1) sz xs.length cS nS cdS nV cdV aS aV yS yV _ w5 (by have := HBy.out.size; omega) hL0 (by omega) HBy.out.k80 HBy.out.k81 (HMV.out HdS.out HBy.out.keeps) (HMV.out HdV.out HBy.out.keeps) rfl rfl rfl rfl rfl ?_
  intro f2 w6 hb gs gv cs cv hsz hds hold hold' e16 hO6 cs6 cv6 gs6 gv6 hb6 hK6
  have e4 : f2.tmps[4]?.getD undef = .slice aW sw.length cW := hold 4 (by omega)
  have e6 : f2.tmps[6]?.getD undef = .pointer (some ⟨w.heap.size + 1, 0, none⟩) := hold 6 (by omega)
  have e10 : f2.tmps[10]?.getD undef = .pointer (some ⟨w.heap.size + 1 + 1 + 1, 0, none⟩) := hold 10 (by omega)
  have e12 : f2.tmps[12]?.getD undef = .slice (some ⟨sz, 0, none⟩) xs.length cS := hold 12 (by omega)
  have e13 : f2.tmps[13]?.getD undef = .slice (some ⟨vz, 0, none⟩) xs.length cV := hold 13 (by omega)
  have e14 : f2.tmps[14]?.getD undef = .int .i64 (xs.length : Int) := hold 14 (by omega)
  obtain ⟨g2, hg2⟩ : ∃ g2 : Nat → Value, ∀ t, f2.tmps[t]?.getD undef = g2 t := ⟨_, fun _ => rfl⟩
  rw [hg2] at e4 e6 e10 e12 e13 e14 e16
  rw [lit285 f2 g2 hg2 hsz hds, e4, e6, e10, e12, e13, e14, e16]
  clear hg2 hsz hds e4 e6 e10 e12 e13 e14 e16
  clear hold hold'
  have HR6 : Hid (_) := Rdy.mk (B := B) (w := w) hO6 (HBy.out.keeps.trans hK6 (fun _ _ h => h)) (hK6.cell HBy.out.k60 (fun h => h)) (hK6.cell HBy.out.k61 (fun h => h)) (HBy.out.res.of_block (hK6.block _ (by have := HBy.out.size; omega) (fun h => h))) (by have := HBy.out.size; have := hK6.size; omega)
  have gs7 : aS = some ⟨gs, 0, none⟩ ∨ w.heap.size + 4 ≤ gs := gs6.imp id (fun h => by have := HBy.out.size; omega)
  have gv7 : aV = some ⟨gv, 0, none⟩ ∨ w.heap.size + 4 ≤ gv := gv6.imp id (fun h => by have := HBy.out.size; omega)
  have hb7 : w.heap.size + 4 ≤ hb := by have := HBy.out.size; omega
  clear hO6 hK6 HBy gs6 gv6 hb6
  refine hK2 _ _ ?_
  clear hK2
  have HG : Hid (_) := growIL B aW sw.length cW xs.length (ints sw) w6 (HMV.out HSW.out HR6.out.keeps) (by omega) hL0 (by omega) (by have := HR6.out.size; omega)
  go_wp2_with fail
  refine Calls.mono HG.out ?_
  rintro e w7 ⟨gw, cw, rfl, ho7, hc7, hcase7⟩
  rename_i K3 hK3
  have HR7 : Hid (_) := HR6.out.grew hcase7
  have HW7 : Hid (_) := ho7
  have gw7 : aW = some ⟨gw, 0, none⟩ ∨ w.heap.size + 4 ≤ gw := by
    rcases hcase7 with ⟨h, _⟩ | ⟨h, _⟩
    · exact Or.inl h
    · right; have := HR6.out.size; omega
  have gsw : gs ≠ gw := by
    intro e
    rcases hcase7 with ⟨h, _⟩ | ⟨h, _⟩
    · rcases gs7 with h2 | h2
      · exact HD.out.2.2.1 gs h2 (by rw [h, e])
      · have := ownsRow_lt HSW.out gw (by rw [h]; rfl)
        omega
    · obtain ⟨_, _, _, _, h3, _⟩ := HR6.out.out.ne
      omega
  clear hcase7 ho7 HG HR6
  have kz0 : w7.cell? ⟨sz, 0, none⟩ = some (.int .i64 0) := by
    have := HR7.out.keeps.cell (HCC.out.1 0 (xs.getD 0 0) (by rw [List.getD_eq_getElem?_getD, List.getElem?_eq_getElem hL0]; rfl)) (fun h => h)
    rw [HM.out.2.2.2.1] at this
    exact this
  have kx0 := HR7.out.it0
  have hlp : (0 : Int) < (xs.length : Int) := by omega
  obtain ⟨p0, hp0⟩ : ∃ p0, p0 = xs.countP (fun y => decide (y < s)) := ⟨_, rfl⟩
  have HP0 : Hid (_) := hp0
  have hpL : p0 ≤ xs.length := by rw [hp0]; exact List.countP_le_length
  have hp1 : 0 < p0 := by
    rw [hp0, List.countP_pos_iff]
    exact ⟨xs.getD 0 0, by rw [List.getD_eq_getElem?_getD, List.getElem?_eq_getElem hL0]; exact List.getElem_mem _, by rw [HM.out.2.2.2.1]; simp; omega⟩
  have HB2 : Hid (∀ wx : World, Keeps (fun _ => False) w wx → Calls Yba.prog 36 #[.slice (some ⟨sz, 0, none⟩) xs.length cS, .int .i64 (s : Int)] wx fun e w' => e = .returned (.tuple #[.int .i64 (p0 : Int), .bool (decide (s ∈ xs))]) ∧ ∃ q, w' = wx.drewN q) := fun wx hk => by
    have h := bs_nat sz 0 cS xs s wx (fun j y hj => by rw [Nat.zero_add]; exact hk.cell (HCC.out.1 j y hj) (fun h => h)) HM.out.2.2.1 (by omega)
    rw [← hp0] at h
    exact h
  clear hp0
  refine hK3 _ _ ?_
  clear hK3
  go_wp2_with fail
  go_quiet ((go_at_call 36; exact Calls.quiet_of (HB2.out _ (by first | exact HR7.out.keeps | exact HR7.out.keeps.drewN _ | exact (HR7.out.keeps.drewN _).drewN _))))
  rename_i K4 hK4
  refine hK4 _ _ ?_
  clear hK4 kz0 kx0
  have HR8 : Hid (_) := HR7.out.drewN nq
  have HW8 : Hid (_) := ownsRow_drewN HW7.out nq
  clear HR7 HW7
  generalize w7.drewN nq = w8 at *
  -- which blocks differ
  have hD : DD (w.heap.size + 1) hb gs gv gw sz vz := by
    obtain ⟨n1, n2, n3, l1, l2, l3⟩ := HR8.out.out.ne
    obtain ⟨_, cg, tg⟩ := ownsRow_tag HW8.out gw rfl
    obtain ⟨ch_, th⟩ := row_tag HR8.out.out.hdr
    obtain ⟨_, cv_, tv⟩ := ownsRow_tag HR8.out.out.rv gv rfl
    obtain ⟨_, cs_, ts⟩ := ownsRow_tag HR8.out.out.rs gs rfl
    obtain ⟨_, cz, tz⟩ := ownsRow_tag (HMV.out HX.out HR8.out.keeps) sz rfl
    obtain ⟨_, cw_, tw⟩ := ownsRow_tag (HMV.out HU.out HR8.out.keeps) vz rfl
    have a1 : gs < w.heap.size ∨ w.heap.size + 4 ≤ gs := gs7.imp (fun h => ownsRow_lt HdS.out gs (by rw [h]; rfl)) id
    have a2 : gv < w.heap.size ∨ w.heap.size + 4 ≤ gv := gv7.imp (fun h => ownsRow_lt HdV.out gv (by rw [h]; rfl)) id
    have a3 : gw < w.heap.size ∨ w.heap.size + 4 ≤ gw := gw7.imp (fun h => ownsRow_lt HSW.out gw (by rw [h]; rfl)) id
    refine ⟨gsw, tag_ne th tg (by decide), tag_ne tv tg (by decide), ?_, ?_, ?_, tag_ne tw tg (by decide), by omega, by omega⟩
    · rintro (e | e | e)
      · omega
      · rcases gs7 with h | h
        · exact HD.out.1 (by rw [h, e])
        · omega
      · exact tag_ne tz tv (by decide) e
    · intro e
      rcases gw7 with h | h
      · exact HD.out.2.1 (by rw [h, e])
      · omega
    · rintro (e | e | e)
      · omega
      · exact tag_ne tw ts (by decide) e
      · rcases gv7 with h | h
        · exact HD.out.2.2.2 (by rw [h, e])
        · omega
  have HDD : Hid (_) := hD
  have h3 : ¬ ch hb gs gv gw (w.heap.size + 3) := by
    have a1 : gs < w.heap.size ∨ w.heap.size + 4 ≤ gs := gs7.imp (fun h => ownsRow_lt HdS.out gs (by rw [h]; rfl)) id
    have a2 : gv < w.heap.size ∨ w.heap.size + 4 ≤ gv := gv7.imp (fun h => ownsRow_lt HdV.out gv (by rw [h]; rfl)) id
    have a3 : gw < w.heap.size ∨ w.heap.size + 4 ≤ gw := gw7.imp (fun h => ownsRow_lt HSW.out gw (by rw [h]; rfl)) id
    unfold ch; omega
  have H3 : Hid (_) := h3
  clear hD h3
  go_wp2_with fail
  try rename_i K5 hK5
  refine r8 B hb gs gv cs cv [] [] (xs.take p0) (us.take p0) sz vz xs.length cS cV p0 _ w8 HR8.out.out hpL x1 u1 hp1 (by simp; omega) (by simp; omega) (fun j u hj => ?_) (fun j u hj => ?_) HDD.out.s1 HDD.out.v1 (by simp; omega) (by simp; omega) rfl rfl rfl rfl rfl rfl ?_
  · have hj' : (ints xs)[j]? = some u := by
      unfold ints at hj ⊢
      rw [List.map_take, List.getElem?_take] at hj
      split at hj
      · exact hj
      · cases hj
    obtain ⟨y, hy, rfl⟩ : ∃ y, xs[j]? = some y ∧ u = .int .i64 (y : Int) := by
      unfold ints at hj'
      rw [List.getElem?_map] at hj'
      cases hx : xs[j]? with
      | none => rw [hx] at hj'; cases hj'
      | some y => rw [hx] at hj'; exact ⟨y, rfl, (Option.some.inj hj').symm⟩
    exact HR8.out.keeps.cell (HCC.out.1 j y hy) (fun h => h)
  · have hj' : (flts us)[j]? = some u := by
      unfold flts at hj ⊢
      rw [List.map_take, List.getElem?_take] at hj
      split at hj
      · exact hj
      · cases hj
    obtain ⟨y, hy, rfl⟩ : ∃ y, us[j]? = some y ∧ u = .float .f64 (W y) := by
      unfold flts at hj'
      rw [List.getElem?_map] at hj'
      cases hx : us[j]? with
      | none => rw [hx] at hj'; cases hj'
      | some y => rw [hx] at hj'; exact ⟨y, rfl, (Option.some.inj hj').symm⟩
    exact HR8.out.keeps.cell (HCC.out.2 j y hy) (fun h => h)
  intro f3 w9 hsz hds hold hO9 hK9
  simp only [List.nil_append] at hO9
  have e4 : f3.tmps[4]?.getD undef = .slice (some ⟨gw, 0, none⟩) sw.length cw := hold 4 (by omega)
  have e6 : f3.tmps[6]?.getD undef = .pointer (some ⟨w.heap.size + 1, 0, none⟩) := hold 6 (by omega)
  have e10 : f3.tmps[10]?.getD undef = .pointer (some ⟨w.heap.size + 1 + 1 + 1, 0, none⟩) := hold 10 (by omega)
  have e12 : f3.tmps[12]?.getD undef = .slice (some ⟨sz, 0, none⟩) xs.length cS := hold 12 (by omega)
  have e13 : f3.tmps[13]?.getD undef = .slice (some ⟨vz, 0, none⟩) xs.length cV := hold 13 (by omega)
  have e14 : f3.tmps[14]?.getD undef = .int .i64 (xs.length : Int) := hold 14 (by omega)
  have e16 : f3.tmps[16]?.getD undef = .pointer (some ⟨hb, 0, none⟩) := hold 16 (by omega)
  have e17 : f3.tmps[17]?.getD undef = .int .i64 (p0 : Int) := hold 17 (by omega)
  obtain ⟨g3, hg3⟩ : ∃ g3 : Nat → Value, ∀ t, f3.tmps[t]?.getD undef = g3 t := ⟨_, fun _ => rfl⟩
  rw [hg3] at e4 e6 e10 e12 e13 e14 e16 e17
  rw [lit285 f3 g3 hg3 hsz hds, e4, e6, e10, e12, e13, e14, e16, e17]
  clear hg3 hsz hds e4 e6 e10 e12 e13 e14 e16 e17
  clear hold
  have gX : ∀ j, j < xs.length → xs[j]? = some (xs.getD j 0) := fun j hj => by rw [List.getD_eq_getElem?_getD, List.getElem?_eq_getElem hj]; rfl
  have gU : ∀ j, j < xs.length → us[j]? = some (us.getD j 0) := fun j hj => by rw [List.getD_eq_getElem?_getD, List.getElem?_eq_getElem (by omega)]; rfl
  have hS9 : SD B w9 (w.heap.size + 1) hb gs gv gw sz vz cs cv cw xs.length s v (fun j => xs.getD j 0) (fun j => us.getD j 0) (xs.take p0) (us.take p0) sw := by
    refine ⟨hO9, ownsRow_of_block HW8.out (fun g hg => ?_), hK9.cell HR8.out.it0 HDD.out.i1, hK9.cell HR8.out.it1 HDD.out.i1, fun j hj => hK9.cell (HR8.out.keeps.cell (HCC.out.1 j _ (gX j hj)) (fun h => h)) HDD.out.s1, fun j hj => hK9.cell (HR8.out.keeps.cell (HCC.out.2 j _ (gU j hj)) (fun h => h)) HDD.out.v1⟩
    simp [Value.ownBlock] at hg; subst hg
    refine hK9.block _ (ownsRow_lt HW8.out _ rfl) ?_
    rintro (e | e | e)
    · exact HDD.out.w2 e.symm
    · exact HDD.out.w1 e.symm
    · exact HDD.out.w3 e.symm
  have kp := hS9.ru (p0 - 1) (by omega)
  have HS9 : Hid (_) := hS9
  have HK9 : Hid (_) := hK9
  clear hS9 hK9 hO9 gX gU
  have q0 : (0 : Int) ≤ (p0 : Int) - 1 := by omega
  have q1 : (p0 : Int) - 1 < (xs.length : Int) := by omega
  have q2 : ((p0 : Int) - 1).toNat = p0 - 1 := by omega
  have q3 : (0 : Int) < (p0 : Int) := by omega
  first
    | (refine hK5 _ _ ?_; clear hK5)
    | skip
  go_wp2_with (go_at_call 42; refine (inf_any _).mono ?_; rintro e w' ⟨⟨b, rfl⟩, rfl⟩)
  go_quiet (fail)
  rename_i K6 hK6
  refine hK6 _ _ ?_
  clear hK6 kp
  have HSA : Hid (_) := HS9.out.drewN nq
  have HKA : Hid (_) := HK9.out.drewN nq
  clear HS9 HK9
  generalize World.drewN _ nq = wA at *
  go_wp2_with fail
  have hgX : ∀ j, xs.getD j 0 < 4096 := fun j => by
    rw [List.getD_eq_getElem?_getD]
    cases hx : xs[j]? with
    | none => simp
    | some y => have := HM.out.1 y (List.mem_of_getElem? hx); simp; omega
  have hgU : ∀ j, us.getD j 0 < 1000 := fun j => by
    rw [List.getD_eq_getElem?_getD]
    cases hx : us[j]? with
    | none => simp
    | some y => have := HM.out.2.1 y (List.mem_of_getElem? hx); simp; omega
  refine out_loop (.pointer (some ⟨w.heap.size + 1 + 1 + 1, 0, none⟩)) (w.heap.size + 1) hb gw sz vz cw xs.length cS cV B gs gv cs cv s v (fun j => xs.getD j 0) (fun j => us.getD j 0) _ p0 (us.getD (p0 - 1) 0) 0 (us.getD (p0 - 1) 0) (xs.take p0) (us.take p0) sw _ wA HDD.out (by omega) (fun j => by have := hgU j; show us.getD j 0 + v < 4096; omega) hgX (by omega) hpL ⟨rfl, rfl, rfl, rfl, rfl, rfl, rfl, rfl, rfl, rfl, rfl, rfl, rfl, rfl, rfl⟩ (by have := hgU (p0 - 1); omega) (by have := hgU (p0 - 1); omega) HSA.out (by simp; omega) (by simp; omega) (by omega) ?_
  intro f4 wB p3 wo3 wi3 la3 tk3 xs3 us3 sw3 wv3 hsweep hp3 hF4 hSB c1 c2 hKB
  have hadd : added xs us sw s v = ⟨p3, wo3, wi3, la3, tk3, xs3, us3, sw3⟩ := by
    rw [← hsweep]
    unfold added st0
    rw [← HP0.out]
  have hp4 : p3 = xs.length := by have := HP.out; rw [hadd] at this; exact this
  subst hp4
  obtain ⟨hsz, hds, e4, e6, e10, e12, e13, e14, e16, e17, e18, e19, e20, e21, e22⟩ := hF4
  obtain ⟨g4, hg4⟩ : ∃ g4 : Nat → Value, ∀ t, f4.tmps[t]?.getD undef = g4 t := ⟨_, fun _ => rfl⟩
  rw [hg4] at e4 e6 e10 e12 e13 e14 e16 e17 e18 e19 e20 e21 e22
  rw [lit285 f4 g4 hg4 hsz hds, e4, e6, e10, e12, e13, e14, e16, e17, e18, e19, e20, e21, e22]
  clear hg4 hsz hds e4 e6 e10 e12 e13 e14 e16 e17 e18 e19 e20 e21 e22
  have hKW : Keeps (ch hb gs gv gw) w8 wB := HKA.out.mono (fun k _ h => ch_of h) |>.trans hKB (fun _ _ h => h)
  have HKW : Hid (_) := hKW
  have HSB : Hid (_) := hSB
  have HAD : Hid (_) := hadd
  clear hKW hSB hKB HSA HKA hadd hsweep hgX hgU
  have hnl : ¬ (xs.length : Int) < (xs.length : Int) := by omega
  go_wp2_with fail
  refine wp_loop_rounds 1 ?_
  rw [rounds_succ]
  rcases tk3 with _ | _
  all_goals
    go_wp2_with fail
    rename_i K7 hK7
    refine r46 B hb gs gv cs cv xs3 us3 sz vz xs.length cS cV _ wB HSB.out.out x1 u1 (by simpa using c1) (by simpa using c2) rfl rfl rfl rfl rfl rfl ?_
    intro f5 wC hsz hds hold hOC hKC
    simp only [List.append_nil] at hOC
    have e4 : f5.tmps[4]?.getD undef = .slice (some ⟨gw, 0, none⟩) sw3.length cw := hold 4 (by omega)
    have e10 : f5.tmps[10]?.getD undef = .pointer (some ⟨w.heap.size + 1 + 1 + 1, 0, none⟩) := hold 10 (by omega)
    have e16 : f5.tmps[16]?.getD undef = .pointer (some ⟨hb, 0, none⟩) := hold 16 (by omega)
    obtain ⟨g5, hg5⟩ : ∃ g5 : Nat → Value, ∀ t, f5.tmps[t]?.getD undef = g5 t := ⟨_, fun _ => rfl⟩
    rw [hg5] at e4 e10 e16
    rw [lit285 f5 g5 hg5 hsz hds, e4, e10, e16]
    clear hg5 hsz hds e4 e10 e16
    clear hold
    have z0 := hOC.hdr.cell (i := 0) (by omega)
    have z1 := hOC.hdr.cell (i := 1) (by omega)
    simp only [if_true, Nat.one_ne_zero, if_false] at z0 z1
    have hres : wC.rowIs (w.heap.size + 1 + 1 + 1) 56 2 (fun _ => .slice none 0 0) := (HR8.out.res.of_block (HKW.out.block _ (by have := HR8.out.size; omega) H3.out)).of_block (hKC.block _ (by have := HR8.out.size; have := HKW.out.size; omega) (fun h => H3.out (ch_of h)))
    have hswC : wC.ownsRow B 3 1 (.slice (some ⟨gw, 0, none⟩) sw3.length cw) sw3.length (ints sw3) := (HSB.out.outs HDD.out hOC hKC).sw
    have hKall : Keeps (fun k => aS = some ⟨k, 0, none⟩ ∨ aV = some ⟨k, 0, none⟩ ∨ aW = some ⟨k, 0, none⟩ ∨ w.heap.size ≤ k) w wC := by
      refine ((HR8.out.keeps.mono (fun _ _ h => h.elim)).trans (HKW.out.trans hKC (fun _ _ h => ch_of h)) (fun k hk h => ?_))
      rcases h with e | e | e | e
      · subst e; omega
      · subst e; rcases gs7 with h | h
        · exact Or.inl h
        · omega
      · subst e; rcases gv7 with h | h
        · exact Or.inr (Or.inl h)
        · omega
      · subst e; rcases gw7 with h | h
        · exact Or.inr (Or.inr (Or.inl h))
        · omega
    have HOC : Hid (_) := hOC
    have HSC : Hid (_) := hswC
    have HKL : Hid (_) := hKall
    have HRS : Hid (_) := hres
    clear hOC hKC hswC hKall hres
    refine hK7 _ _ ?_
    clear hK7
    refine fin47 (w.heap.size + 1 + 1 + 1) hb gs gv gw xs3.length us3.length cs cv sw3.length cw _ wC rfl rfl rfl rfl rfl z0 z1 HRS.out ?_
    have key : ∀ k, k ≠ w.heap.size + 1 + 1 + 1 → ((wC.setCell ⟨w.heap.size + 1 + 1 + 1, 0, none⟩ (.slice (some ⟨gs, 0, none⟩) xs3.length cs)).setCell ⟨w.heap.size + 1 + 1 + 1, 1, none⟩ (.slice (some ⟨gv, 0, none⟩) us3.length cv)).heap[k]? = wC.heap[k]? := fun k hk => (Below.heap_setCell _ _ _ _ hk).trans (Below.heap_setCell _ _ _ _ hk)
    rw [HAD.out]
    refine ⟨gs, gv, gw, cs, cv, cw, rfl, ownsRow_of_block HOC.out.rs (fun k hk => key k (fun e => ?_)), ownsRow_of_block HOC.out.rv (fun k hk => key k (fun e => ?_)), ownsRow_of_block HSC.out (fun k hk => key k (fun e => ?_)), gs7.imp id (fun h => by omega), gv7.imp id (fun h => by omega), gw7.imp id (fun h => by omega), gsw, ⟨HKL.out.os, HKL.out.tape, HKL.out.output, by simpa using HKL.out.size, fun k hk hn => (key k (by omega)).trans (HKL.out.block k hk (fun h => ?_))⟩⟩
    · simp [Value.ownBlock] at hk; subst hk; exact H3.out (Or.inr (Or.inl e.symm))
    · simp [Value.ownBlock] at hk; subst hk; exact H3.out (Or.inr (Or.inr (Or.inl e.symm)))
    · simp [Value.ownBlock] at hk; subst hk; exact H3.out (Or.inr (Or.inr (Or.inr e.symm)))
    · rcases h with h | h | h | h
      · exact hn (Or.inl h)
      · exact hn (Or.inr (Or.inl h))
      · exact hn (Or.inr (Or.inr h))
      · omega
end Go.Proofs.Ybulkbnbu.Kn
