/-
  The staircase's 'fill' (function 29).
-/
import Derived.Test.YbulkbnbuPlainC
namespace Go.Proofs.Ybulkbnbu.Kn
set_option linter.unusedSimpArgs false
set_option linter.unusedVariables false
open Go.ChangeShapes Go.WideShapes Go.ChangeAt Go.RowKit
open Go.Proofs.Ybulkbnbu.Fl
attribute [local go_sem] run_store_float

/-- Where the walk stands: q steps lie at or below the sizes that are done. -/
structure At (xs : List Nat) (c q : Nat) : Prop where
  le : q ≤ xs.length
  zero : c = 0 → q = 0
  lo : 0 < c → 0 < q ∧ xs.getD (q - 1) 0 < c
  hi : 0 < c → q < xs.length → c ≤ xs.getD q 0

theorem At.hit {xs : List Nat} {c q : Nat} (h : At xs c q) (hs : xs.Pairwise (· < ·)) (hq : q < xs.length) (e : xs.getD q 0 = c) : At xs (c + 1) (q + 1) := by
  refine ⟨by omega, by omega, fun _ => ⟨by omega, by simp only [Nat.add_sub_cancel]; omega⟩, fun _ hq2 => ?_⟩
  have := List.pairwise_iff_getElem.1 hs q (q + 1) hq hq2 (by omega)
  rw [List.getD_eq_getElem?_getD, List.getElem?_eq_getElem hq] at e
  rw [List.getD_eq_getElem?_getD, List.getElem?_eq_getElem hq2]
  simp at e ⊢
  omega
theorem At.miss {xs : List Nat} {c q : Nat} (h : At xs c q) (h0 : xs.getD 0 0 = 0) (hp : 0 < xs.length) (e : ¬ (q < xs.length ∧ xs.getD q 0 = c)) : At xs (c + 1) q := by
  have hc : 0 < c := by
    apply Nat.pos_of_ne_zero
    intro hc
    have := h.zero hc
    subst this
    exact e ⟨hp, by rw [h0, hc]⟩
  refine ⟨h.le, by omega, fun _ => ⟨(h.lo hc).1, by have := (h.lo hc).2; omega⟩, fun _ hq => ?_⟩
  have := h.hi hc hq
  have : xs.getD q 0 ≠ c := fun e' => e ⟨hq, e'⟩
  omega
theorem At.val {xs us : List Nat} {room c q : Nat} {G : Nat → Nat} (h : At xs (c + 1) q) (hR : Rep xs us room G) (hc : c ≤ room) : G c = us.getD (q - 1) 0 := by
  have h1 := h.lo (by omega)
  refine hR.val c (q - 1) hc (by have := h.le; omega) (by have := h1.2; omega) (fun hq => ?_)
  have := h.hi (by omega) (by omega : q < xs.length)
  rw [show q - 1 + 1 = q by omega]
  omega

theorem made_f (w : World) (n : Nat) (hn : n ≤ 1000) : (Instr.makeSlice 54 (.int .i64 (n : Int)) (.int .i64 (n : Int))).run Yba.prog w = .ok (.slice (some ⟨w.heap.size, 0, none⟩) n n) (w.alloc (.cells (madeCells #[.float .f64 0] n) 26)) :=
  run_make_row' (P := Yba.prog) 54 26 (.float .f64 0) 8 Yba.underlying54 info26 rfl .i64 .i64 n (by omega) (by omega) w

def tabF (G : Nat → Nat) (c j : Nat) : Value := if j < c then .float .f64 (W (G j)) else .float .f64 0

set_option maxRecDepth 100000 in
set_option maxHeartbeats 4000000 in
theorem fill_any (B sz vz L cS cV room : Nat) (xs us : List Nat) (G : Nat → Nat) (w : World) (hX : w.ownsRow B 3 1 (.slice (some ⟨sz, 0, none⟩) L cS) L (ints xs)) (hU : w.ownsRow B 26 1 (.slice (some ⟨vz, 0, none⟩) L cV) L (flts us)) (hR : Rep xs us room G) (hroom : room < 900) (hL : L ≤ 100) :
    Calls Yba.prog 29 #[.agg #[.slice (some ⟨sz, 0, none⟩) L cS, .slice (some ⟨vz, 0, none⟩) L cV], .int .i64 (room : Int)] w fun e w' => ∃ g, e = .returned (.slice (some ⟨g, 0, none⟩) (room + 1) (room + 1)) ∧ w'.rowIs g 26 (room + 1) (fun c => .float .f64 (W (G c))) ∧ w.heap.size ≤ g ∧ Keeps (fun _ => False) w w' := by
  have cX := own_ints hX
  have cU := own_flts hU
  have xl : xs.length = L := by simpa [ints] using (own_cap hX).2.2.1
  have lsz := ownsRow_lt hX sz rfl
  have lvz := ownsRow_lt hU vz rfl
  subst xl
  have hmk := made_f (w.alloc (.cells #[.slice (some ⟨sz, 0, none⟩) xs.length cS, .slice (some ⟨vz, 0, none⟩) xs.length cV] 56)) (room + 1) (by omega)
  rw [show (((room + 1 : Nat) : Int)) = (room : Int) + 1 by omega] at hmk
  have hrow0 := (World.rowIs_made (w.alloc (.cells #[.slice (some ⟨sz, 0, none⟩) xs.length cS, .slice (some ⟨vz, 0, none⟩) xs.length cV] 56)) (.float .f64 0) (room + 1) 26).congr (g := tabF G 0) (fun j _ => by simp [tabF])
  have hbox := (row_two w 56 (.slice (some ⟨sz, 0, none⟩) xs.length cS) (.slice (some ⟨vz, 0, none⟩) xs.length cV)).alloc (.cells (madeCells #[.float .f64 0] (room + 1)) 26)
  have hk0 : Keeps (fun k => w.heap.size ≤ k) w ((w.alloc (.cells #[.slice (some ⟨sz, 0, none⟩) xs.length cS, .slice (some ⟨vz, 0, none⟩) xs.length cV] 56)).alloc (.cells (madeCells #[.float .f64 0] (room + 1)) 26)) := ((Keeps.refl _ w).alloc _).alloc _
  have HX : Hid (_) := And.intro cX cU
  have HR : Hid (_) := hR
  clear hX hU cX cU hR
  go_enter Yba.func29, Yba.ntmps29
  go_wp2
  clear hmk
  simp only [World.size_alloc] at hrow0
  go_loopw [6, 7, 13] (fun p c i wr => ∃ k q : Nat, k ≤ room + 1 ∧ i = .int .i64 (k : Int) ∧ p = .int .i64 ((q : Int) - 1) ∧ At xs k q ∧ wr.rowIs (w.heap.size + 1) 26 (room + 1) (tabF G k) ∧ wr.rowIs w.heap.size 56 2 (fun j => if j = 0 then .slice (some ⟨sz, 0, none⟩) xs.length cS else .slice (some ⟨vz, 0, none⟩) xs.length cV) ∧ Keeps (fun k => w.heap.size ≤ k) w wr) (fun _ _ i _ => room + 1 - (intOf i).toNat)
  case atStart => exact ⟨0, 0, Nat.zero_le _, rfl, rfl, ⟨Nat.zero_le _, fun _ => rfl, fun h => absurd h (by omega), fun h => absurd h (by omega)⟩, hrow0, hbox, hk0⟩
  case round =>
    obtain ⟨k, q, hk, rfl, rfl, hat, hrw, hbx, hkp⟩ := hrel
    clear hrow0 hbox hk0
    by_cases hlt : k < room + 1
    · have b0 := hbx.cell (i := 0) (by omega)
      have b1 := hbx.cell (i := 1) (by omega)
      simp only [if_true, Nat.one_ne_zero, if_false] at b0 b1
      have hd := hrw.cell hlt
      have hf := hrw.frozen k
      have gX : ∀ j, j < xs.length → wr.cell? ⟨sz, j, none⟩ = some (.int .i64 ((xs.getD j 0 : Nat) : Int)) := fun j hj => hkp.cell (HX.out.1 j _ (by rw [List.getD_eq_getElem?_getD, List.getElem?_eq_getElem hj]; rfl)) (by show ¬ w.heap.size ≤ sz; omega)
      have gU : ∀ j, j < xs.length → wr.cell? ⟨vz, j, none⟩ = some (.float .f64 (W (us.getD j 0))) := fun j hj => hkp.cell (HX.out.2 j _ (by rw [List.getD_eq_getElem?_getD, List.getElem?_eq_getElem (by have := HR.out.len; omega)]; rfl)) (by show ¬ w.heap.size ≤ vz; omega)
      have step : ∀ (b x : Nat), x = G k → ((wr.setCell ⟨w.heap.size + 1, k, none⟩ (.float .f64 b)).setCell ⟨w.heap.size + 1, k, none⟩ (.float .f64 (W x))).rowIs (w.heap.size + 1) 26 (room + 1) (tabF G (k + 1)) := fun b x hx => ((hrw.set k _).set k _).congr (fun j _ => by
        unfold tabF
        by_cases e : j = k
        · subst e; rw [if_pos rfl, if_pos (by omega), hx]
        · rw [if_neg e, if_neg e]
          by_cases e2 : j < k
          · rw [if_pos e2, if_pos (by omega)]
          · rw [if_neg e2, if_neg (by omega)])
      have stepB : ∀ (b x : Nat), ((wr.setCell ⟨w.heap.size + 1, k, none⟩ (.float .f64 b)).setCell ⟨w.heap.size + 1, k, none⟩ (.float .f64 (W x))).rowIs w.heap.size 56 2 (fun j => if j = 0 then .slice (some ⟨sz, 0, none⟩) xs.length cS else .slice (some ⟨vz, 0, none⟩) xs.length cV) := fun b x => (hbx.setOther (by show w.heap.size ≠ w.heap.size + 1; omega) _).setOther (by show w.heap.size ≠ w.heap.size + 1; omega) _
      have stepK : ∀ (b x : Nat), Keeps (fun k => w.heap.size ≤ k) w ((wr.setCell ⟨w.heap.size + 1, k, none⟩ (.float .f64 b)).setCell ⟨w.heap.size + 1, k, none⟩ (.float .f64 (W x))) := fun b x => (hkp.setCell (fun _ => by show w.heap.size ≤ w.heap.size + 1; omega) _).setCell (fun _ => by show w.heap.size ≤ w.heap.size + 1; omega) _
      have hd2 : ∀ b : Nat, (wr.setCell ⟨w.heap.size + 1, k, none⟩ (.float .f64 b)).cell? ⟨w.heap.size + 1, k, none⟩ = some (.float .f64 b) := fun b => by simpa using (hrw.set k (.float .f64 b)).cell hlt
      have hdv : ∃ d, wr.cell? ⟨w.heap.size + 1, k, none⟩ = some (.float .f64 d) := by
        rw [hd]; unfold tabF; split
        · exact ⟨_, rfl⟩
        · exact ⟨_, rfl⟩
      obtain ⟨d, hdv⟩ := hdv
      have HS : Hid (_) := step
      have HSB : Hid (_) := stepB
      have HSK : Hid (_) := stepK
      have HA : Hid (_) := hat
      have hk0 : (0 : Int) ≤ (k : Int) := by omega
      have hk1 : (k : Int) < (room : Int) + 1 := by omega
      have hqle := hat.le
      by_cases hit : q < xs.length ∧ xs.getD q 0 = k
      · obtain ⟨hq, hx⟩ := hit
        have cx := gX q hq
        have cu := gU q hq
        rw [hx] at cx
        have hat2 := hat.hit HR.out.sort hq hx
        have hval := hat2.val HR.out (by omega)
        simp only [Nat.add_sub_cancel] at hval
        have HA2 : Hid (_) := hat2
        have HV : Hid (_) := hval.symm
        clear gX gU hx hat2 hval hat step stepB stepK hd hkp hbx hrw
        have h1 : (q : Int) < (xs.length : Int) := by omega
        have h2 : (0 : Int) ≤ (q : Int) := by omega
        go_wp2_with (go_at_call 42; refine (inf_any _).mono ?_; rintro e w' ⟨⟨b, rfl⟩, rfl⟩)
        go_roundw
        case rel => exact ⟨k + 1, q + 1, by omega, by go_num, by first | rfl | go_num, HA2.out, HS.out _ _ HV.out, HSB.out _ _, HSK.out _ _⟩
        case measure => simp [intOf]; omega
      · have hat2 := hat.miss HR.out.zero HR.out.pos hit
        have hq0 := (hat2.lo (by omega)).1
        have cu := gU (q - 1) (by omega)
        have cxx := fun h => gX q h
        have hval := hat2.val HR.out (by omega)
        have HA2 : Hid (_) := hat2
        have HV : Hid (_) := hval.symm
        clear gX gU hat2 hval hat step stepB stepK hd hkp hbx hrw
        have h2 : (0 : Int) ≤ (q : Int) - 1 := by omega
        have h3 : (q : Int) - 1 < (xs.length : Int) := by omega
        have h4 : ((q : Int) - 1).toNat = q - 1 := by omega
        by_cases hq : q < xs.length
        · have h1 : (q : Int) < (xs.length : Int) := by omega
          have h5 : (0 : Int) ≤ (q : Int) := by omega
          have cx := cxx hq
          have hne : ¬ (((xs.getD q 0 : Nat) : Int) = (k : Int)) := fun e => hit ⟨hq, by omega⟩
          clear cxx hit
          generalize xs.getD q 0 = y at *
          go_wp2_with (go_at_call 42; refine (inf_any _).mono ?_; rintro e w' ⟨⟨b, rfl⟩, rfl⟩)
          go_roundw
          case rel => exact ⟨k + 1, q, by omega, by go_num, by first | rfl | go_num, HA2.out, HS.out _ _ HV.out, HSB.out _ _, HSK.out _ _⟩
          case measure => simp [intOf]; omega
        · have h1 : ¬ (q : Int) < (xs.length : Int) := by omega
          clear cxx
          go_wp2_with (go_at_call 42; refine (inf_any _).mono ?_; rintro e w' ⟨⟨b, rfl⟩, rfl⟩)
          go_roundw
          case rel => exact ⟨k + 1, q, by omega, by go_num, by first | rfl | go_num, HA2.out, HS.out _ _ HV.out, HSB.out _ _, HSK.out _ _⟩
          case measure => simp [intOf]; omega
    · obtain rfl : k = room + 1 := by omega
      have R := hrw.congr (g := fun c => .float .f64 (W (G c))) (fun j hj => by unfold tabF; rw [if_pos hj])
      have hk1 : ¬ ((room + 1 : Nat) : Int) < (room : Int) + 1 := by omega
      have HR2 : Hid (_) := R
      have HK2 : Hid (_) := hkp
      clear hrw hkp hbx hat R
      go_wp2
      go_ret
      exact ⟨_, rfl, HR2.out, by omega, HK2.out.os, HK2.out.tape, HK2.out.output, HK2.out.size, fun k hk _ => HK2.out.block k hk (by omega)⟩
end Go.Proofs.Ybulkbnbu.Kn
