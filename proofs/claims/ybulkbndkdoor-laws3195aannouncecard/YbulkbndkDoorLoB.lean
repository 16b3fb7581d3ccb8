/-
  The law's loops over one server's ASPs and members.
-/
import Derived.Test.YbulkbndkDoorLoA
namespace Go.Proofs.YbulkbndkDoor.Pr
set_option linter.unusedSimpArgs false
set_option linter.unusedVariables false
open Go.ChangeShapes Go.WideShapes Go.ChangeAt Go.RowKit

def F4 (va vb vc : Value) (B Sa n i A j : Nat) (f : Act) : Prop := f.tmps.size = 368 ∧ f.defers = [] ∧ f.tmps[0]?.getD undef = va ∧ f.tmps[1]?.getD undef = vb ∧ f.tmps[2]?.getD undef = vc ∧ f.tmps[8]?.getD undef = .pointer (some ⟨B, 0, none⟩) ∧ f.tmps[9]?.getD undef = .pointer (some ⟨B + 1, 0, none⟩) ∧ f.tmps[10]?.getD undef = .pointer (some ⟨B + 2, 0, none⟩) ∧ f.tmps[13]?.getD undef = .slice (some ⟨Sa, 0, none⟩) n n ∧ f.tmps[14]?.getD undef = .int .i64 (i : Int) ∧ f.tmps[17]?.getD undef = .pointer (some ⟨A, 0, none⟩) ∧ f.tmps[18]?.getD undef = .int .i64 (j : Int)
theorem mapped_keeps (w : World) (M B : Nat) (ss : Nat → Nat) (k : Nat) : Keeps (fun j => j = M) w (mapped w M B ss k) :=
  ⟨rfl, rfl, rfl, by simp [mapped], fun j _ h => by simp only [mapped]; exact Array.getElem?_setIfInBounds_ne (fun e => h e.symm)⟩
theorem mapped_at (w : World) (M B : Nat) (ss : Nat → Nat) (k : Nat) (hM : M < w.heap.size) : (mapped w M B ss k).heap[M]? = some (.map (mapEs B ss k) k) := by
  simp only [mapped]
  rw [Array.getElem?_setIfInBounds_self_of_lt hM]

def I4 (va vb vc : Value) (B Sa n i A M : Nat) (ss : Nat → Nat) (w0 : World) (m : Nat) (f : Act) (w : World) : Prop :=
  ∃ j, j ≤ 4 ∧ m = 4 - j ∧ F4 va vb vc B Sa n i A j f ∧ w.heap[M]? = some (.map (mapEs B ss j) j) ∧ Keeps (fun k => k = M) w0 w

set_option maxRecDepth 100000 in
set_option maxHeartbeats 4000000 in
theorem loop4 {Q : Exit → Act → World → Prop} (vb vc : Value) (B Sa n i A M sb so cap : Nat) (ss : Nat → Nat) (hss : ∀ j, ss j < 256) (hi : i < n) (af : Nat → Value) (w : World) (hA : w.rowIs A 86 35 af) (h9 : af 9 = .map (some M)) (hM : w.heap[M]? = some (.map (mapEs B ss 0) 0)) (hP : Asps B w)
    (hpa : ∀ j, j < 4 → w.cell? ⟨B + 1, j, none⟩ = some (.pointer (some ⟨aspb B j, 0, none⟩))) (hcs : ∀ j, j < 4 → w.cell? ⟨sb, so + i * 7 + 3 + j, none⟩ = some (.int .u8 (ss j : Int))) (f : Act) (hF : F4 (.slice (some ⟨sb, so, none⟩) n cap) vb vc B Sa n i A 0 f)
    (hend : ∀ f' w', F4 (.slice (some ⟨sb, so, none⟩) n cap) vb vc B Sa n i A 4 f' → w'.heap[M]? = some (.map (mapEs B ss 4) 4) → Keeps (fun k => k = M) w w' → Q (.exit 6) f' w') :
    Code.wp Ybad.prog ((Ybad.f3.body.bind (blk 6)).getD .skip) Q f w := by
  conv => arg 2; whnf
  have nM : ∀ (k : Nat) (c : Array Value) (t : TypeId) (fr : Nat × Nat), w.heap[k]? = some (.cells c t fr) → k ≠ M := fun k c t fr hk e => by
    rw [e, hM] at hk; cases hk
  have nMc : ∀ (a : Addr) (v : Value), w.cell? a = some v → a.block ≠ M := fun a v h e => by
    have : w.heap[a.block]? = some (.map (mapEs B ss 0) 0) := by rw [e]; exact hM
    simp [World.cell?, this] at h
  refine wp_loop_ghost (I4 (.slice (some ⟨sb, so, none⟩) n cap) vb vc B Sa n i A M ss w) 4 ⟨0, Nat.zero_le _, rfl, hF, hM, Keeps.refl _ _⟩ ?_
  clear hF f
  rintro m f w1 ⟨j, hj, rfl, ⟨hsz, hds, e0, e1, e2, e8, e9, e10, e13, e14, e17, e18⟩, hM1, hK⟩
  obtain ⟨g, hg⟩ : ∃ g : Nat → Value, ∀ t, f.tmps[t]?.getD undef = g t := ⟨_, fun _ => rfl⟩
  rw [hg] at e0 e1 e2 e8 e9 e10 e13 e14 e17 e18
  rw [lit368 f g hg hsz hds, e0, e1, e2, e8, e9, e10, e13, e14, e17, e18]
  clear hg hsz hds e0 e1 e2 e8 e9 e10 e13 e14 e17 e18
  have HE : Hid (∀ f' w', F4 (.slice (some ⟨sb, so, none⟩) n cap) vb vc B Sa n i A 4 f' → w'.heap[M]? = some (.map (mapEs B ss 4) 4) → Keeps (fun k => k = M) w w' → Q (.exit 6) f' w') := hend
  have HM1 : Hid (w1.heap[M]? = some (.map (mapEs B ss j) j)) := hM1
  have HK : Hid (Keeps (fun k => k = M) w w1) := hK
  by_cases hlt : j < 4
  · have hj0 : (0 : Int) ≤ (j : Int) := by omega
    have hj1 : (j : Int) < 4 := by omega
    have c9 := hA.cell (i := 9) (by omega)
    rw [h9] at c9
    have d9 := hK.cell c9 (nMc _ _ c9)
    have dp := hK.cell (hpa j hlt) (nMc _ _ (hpa j hlt))
    have ds := hK.cell (hcs j hlt) (nMc _ _ (hcs j hlt))
    have hb : ∀ j, j < 4 → Blk w1 (aspb B j) := fun j hj => by
      obtain ⟨pf, hpf, _⟩ := hP j hj
      obtain ⟨c, hc⟩ := row_tag hpf
      exact ⟨c, _, (hK.block _ hpf.lt (nM _ _ _ _ hc)).trans hc⟩
    have HD : Hid ((∀ j, j < 4 → Blk w1 (aspb B j)) ∧ w1.cell? ⟨A, 9, none⟩ = some (.map (some M)) ∧ w1.cell? ⟨B + 1, j, none⟩ = some (.pointer (some ⟨aspb B j, 0, none⟩)) ∧ w1.cell? ⟨sb, so + i * 7 + 3 + j, none⟩ = some (.int .u8 (ss j : Int))) := ⟨hb, d9, dp, ds⟩
    clear hend hM1 hK hA h9 hM hP hpa hcs nM nMc c9 d9 dp ds hb
    go_wp2_with fail
    rename_i K1 hK1
    refine law_r27 B A M (B + 1) j i sb so n cap ss hss _ w1 hlt hi HD.out.1 HM1.out HD.out.2.1 HD.out.2.2.1 HD.out.2.2.2 rfl rfl rfl rfl rfl rfl rfl ?_
    intro f2 hsz hds hold
    have e0 : f2.tmps[0]?.getD undef = .slice (some ⟨sb, so, none⟩) n cap := hold 0 (by omega)
    have e1 : f2.tmps[1]?.getD undef = vb := hold 1 (by omega)
    have e2 : f2.tmps[2]?.getD undef = vc := hold 2 (by omega)
    have e8 : f2.tmps[8]?.getD undef = .pointer (some ⟨B, 0, none⟩) := hold 8 (by omega)
    have e9 : f2.tmps[9]?.getD undef = .pointer (some ⟨B + 1, 0, none⟩) := hold 9 (by omega)
    have e10 : f2.tmps[10]?.getD undef = .pointer (some ⟨B + 2, 0, none⟩) := hold 10 (by omega)
    have e13 : f2.tmps[13]?.getD undef = .slice (some ⟨Sa, 0, none⟩) n n := hold 13 (by omega)
    have e14 : f2.tmps[14]?.getD undef = .int .i64 (i : Int) := hold 14 (by omega)
    have e17 : f2.tmps[17]?.getD undef = .pointer (some ⟨A, 0, none⟩) := hold 17 (by omega)
    have e18 : f2.tmps[18]?.getD undef = .int .i64 (j : Int) := hold 18 (by omega)
    obtain ⟨g2, hg2⟩ : ∃ g2 : Nat → Value, ∀ t, f2.tmps[t]?.getD undef = g2 t := ⟨_, fun _ => rfl⟩
    rw [hg2] at e0 e1 e2 e8 e9 e10 e13 e14 e17 e18
    rw [lit368 f2 g2 hg2 hsz hds, e0, e1, e2, e8, e9, e10, e13, e14, e17, e18]
    clear hg2 hsz hds e0 e1 e2 e8 e9 e10 e13 e14 e17 e18
    have HM2 : Hid ((mapped w1 M B ss (j + 1)).heap[M]? = some (.map (mapEs B ss (j + 1)) (j + 1))) := mapped_at w1 M B ss (j + 1) (by have := (Array.getElem?_eq_some_iff.1 HM1.out).1; exact this)
    have HK2 : Hid (Keeps (fun k => k = M) w (mapped w1 M B ss (j + 1))) := HK.out.trans (mapped_keeps w1 M B ss (j + 1)) (fun _ _ h => h)
    clear hold HD HM1 HK
    generalize mapped w1 M B ss (j + 1) = w2 at *
    first
      | (refine hK1 _ _ ?_; clear hK1; go_wp2_with fail; exact ⟨4 - (j + 1), by omega, j + 1, by omega, rfl, ⟨rfl, rfl, rfl, rfl, rfl, rfl, rfl, rfl, rfl, rfl, rfl, by first | rfl | go_num⟩, HM2.out, HK2.out⟩)
      | (go_wp2_with fail; exact ⟨4 - (j + 1), by omega, j + 1, by omega, rfl, ⟨rfl, rfl, rfl, rfl, rfl, rfl, rfl, rfl, rfl, rfl, rfl, by first | rfl | go_num⟩, HM2.out, HK2.out⟩)
  · obtain rfl : j = 4 := by omega
    clear hend hM1 hK hA h9 hM hP hpa hcs nM nMc
    go_wp2_with fail
    exact HE.out _ _ ⟨rfl, rfl, rfl, rfl, rfl, rfl, rfl, rfl, rfl, rfl, rfl, rfl⟩ HM1.out HK.out

def F5 (va vb vc : Value) (B Sa n i A : Nat) (ma : Option Addr) (mc : Nat) (ms : List Nat) (k : Nat) (f : Act) : Prop := f.tmps.size = 368 ∧ f.defers = [] ∧ f.tmps[0]?.getD undef = va ∧ f.tmps[1]?.getD undef = vb ∧ f.tmps[2]?.getD undef = vc ∧ f.tmps[8]?.getD undef = .pointer (some ⟨B, 0, none⟩) ∧ f.tmps[9]?.getD undef = .pointer (some ⟨B + 1, 0, none⟩) ∧ f.tmps[10]?.getD undef = .pointer (some ⟨B + 2, 0, none⟩) ∧ f.tmps[13]?.getD undef = .slice (some ⟨Sa, 0, none⟩) n n ∧ f.tmps[14]?.getD undef = .int .i64 (i : Int) ∧ f.tmps[17]?.getD undef = .pointer (some ⟨A, 0, none⟩) ∧ f.tmps[147]?.getD undef = .slice ma ms.length mc ∧ f.tmps[148]?.getD undef = .int .i64 (ms.length : Int) ∧ f.tmps[149]?.getD undef = .int .i64 (k : Int)
def amem (af : Nat → Value) (mv : Value) (c : Nat) : Value := if c = 8 then mv else af c
def I5 (va vb vc : Value) (B Sa n i A : Nat) (ma : Option Addr) (mc : Nat) (ms : List Nat) (af : Nat → Value) (w0 : World) (m : Nat) (f : Act) (w : World) : Prop :=
  ∃ k mv, k ≤ ms.length ∧ m = ms.length - k ∧ F5 va vb vc B Sa n i A ma mc ms k f ∧ w.rowIs A 86 35 (amem af mv) ∧ w.ownsRow B 32 1 mv k ((ms.take k).map fun m => ptr (aspb B (m % 4))) ∧ (∀ g, mv.ownBlock = some g → w0.heap.size ≤ g) ∧ Keeps (fun k => k = A) w0 w

set_option maxRecDepth 100000 in
set_option maxHeartbeats 4000000 in
theorem loop5 {Q : Exit → Act → World → Prop} (va vb vc : Value) (B Sa n i A : Nat) (ma : Option Addr) (mc : Nat) (ms : List Nat) (hms : ∀ m ∈ ms, m < 256) (hml : ms.length ≤ 256) (af : Nat → Value) (w : World) (hA : w.rowIs A 86 35 af) (h8 : af 8 = .slice none 0 0) (hsrc : Src1 B w ma ms)
    (hpa : ∀ j, j < 4 → w.cell? ⟨B + 1, j, none⟩ = some (.pointer (some ⟨aspb B j, 0, none⟩))) (hBA : B + 1 < A) (f : Act) (hF : F5 va vb vc B Sa n i A ma mc ms 0 f)
    (hend : ∀ f' w' mv, F5 va vb vc B Sa n i A ma mc ms ms.length f' → w'.rowIs A 86 35 (amem af mv) → w'.ownsRow B 32 1 mv ms.length (ms.map fun m => ptr (aspb B (m % 4))) → Keeps (fun k => k = A) w w' → Q (.exit 8) f' w') :
    Code.wp Ybad.prog ((Ybad.f3.body.bind (blk 8)).getD .skip) Q f w := by
  conv => arg 2; whnf
  have lA := hA.lt
  refine wp_loop_ghost (I5 va vb vc B Sa n i A ma mc ms af w) ms.length ⟨0, .slice none 0 0, Nat.zero_le _, rfl, hF, row_congr hA (fun c _ => by unfold amem; split; (rename_i e; rw [e, h8]); rfl), by simpa using World.ownsRow_nil w B 32 1, fun g hg => (by cases hg), Keeps.refl _ _⟩ ?_
  clear hF f
  rintro m f w1 ⟨k, mv, hk, rfl, ⟨hsz, hds, e0, e1, e2, e8, e9, e10, e13, e14, e17, e147, e148, e149⟩, hR, hO, hN, hK⟩
  obtain ⟨g, hg⟩ : ∃ g : Nat → Value, ∀ t, f.tmps[t]?.getD undef = g t := ⟨_, fun _ => rfl⟩
  rw [hg] at e0 e1 e2 e8 e9 e10 e13 e14 e17 e147 e148 e149
  rw [lit368 f g hg hsz hds, e0, e1, e2, e8, e9, e10, e13, e14, e17, e147, e148, e149]
  clear hg hsz hds e0 e1 e2 e8 e9 e10 e13 e14 e17 e147 e148 e149
  have HE : Hid (∀ f' w' mv, F5 va vb vc B Sa n i A ma mc ms ms.length f' → w'.rowIs A 86 35 (amem af mv) → w'.ownsRow B 32 1 mv ms.length (ms.map fun m => ptr (aspb B (m % 4))) → Keeps (fun k => k = A) w w' → Q (.exit 8) f' w') := hend
  have HR : Hid (w1.rowIs A 86 35 (amem af mv)) := hR
  have HO : Hid (w1.ownsRow B 32 1 mv k ((ms.take k).map fun m => ptr (aspb B (m % 4)))) := hO
  have HN : Hid (∀ g, mv.ownBlock = some g → w.heap.size ≤ g) := hN
  have HK : Hid (Keeps (fun k => k = A) w w1) := hK
  by_cases hlt : k < ms.length
  · have hI0 : (0 : Int) ≤ (k : Int) := by omega
    have hI1 : (k : Int) < (ms.length : Int) := by omega
    obtain ⟨mb, mo, rfl, hmb, hmc⟩ := hsrc k ms[k] (List.getElem?_eq_getElem hlt)
    have hmm : ms[k] < 256 := hms _ (List.getElem_mem hlt)
    have hnx : (ms.take (k + 1)).map (fun m => ptr (aspb B (m % 4))) = (ms.take k).map (fun m => ptr (aspb B (m % 4))) ++ [ptr (aspb B (ms[k] % 4))] := by rw [take_snoc hlt, List.map_append]; rfl
    generalize ms[k] = mm at *
    have hcm := hK.cell hmc (by show mb ≠ A; omega)
    obtain ⟨j, hjd⟩ : ∃ j, j = mm % 4 := ⟨_, rfl⟩
    have hj : j < 4 := by omega
    have hcp := hK.cell (hpa j hj) (by show B + 1 ≠ A; omega)
    have HC : Hid (w1.cell? ⟨B + 1, j, none⟩ = some (.pointer (some ⟨aspb B j, 0, none⟩)) ∧ (mm : Int) % 4 = (j : Int) ∧ B + 1 < w.heap.size) := ⟨hcp, by omega, by have := World.block_lt_of_cell? w _ (hpa j hj); simpa using this⟩
    have HX : Hid ((ms.take (k + 1)).map (fun m => ptr (aspb B (m % 4))) = (ms.take k).map (fun m => ptr (aspb B (m % 4))) ++ [ptr (aspb B j)]) := by rw [hjd]; exact hnx
    have HBA : Hid (B + 1 < A) := hBA
    clear hend hR hO hN hK hA h8 hsrc hpa hmc hjd hcp hnx hBA
    go_wp2_with fail
    rename_i K1 hK1
    have lw := HR.out.lt
    refine law_r31 A (B + 1) mm j (aspb B j) (amem af mv) k B ((ms.take k).map fun m => ptr (aspb B (m % 4))) _ w1 hj HC.out.2.1 hmm HC.out.1 (by have := HBA.out; omega) (fun e => by have := HN.out _ e; have := HC.out.2.2; omega) HR.out HO.out (by omega) (own_ne HR.out HO.out (by decide)) (by have := HBA.out; omega) rfl rfl rfl rfl rfl ?_
    intro f2 w2 gg cap hsz hds hold hA2
    have e0 : f2.tmps[0]?.getD undef = va := hold 0 (by omega)
    have e1 : f2.tmps[1]?.getD undef = vb := hold 1 (by omega)
    have e2 : f2.tmps[2]?.getD undef = vc := hold 2 (by omega)
    have e8 : f2.tmps[8]?.getD undef = .pointer (some ⟨B, 0, none⟩) := hold 8 (by omega)
    have e9 : f2.tmps[9]?.getD undef = .pointer (some ⟨B + 1, 0, none⟩) := hold 9 (by omega)
    have e10 : f2.tmps[10]?.getD undef = .pointer (some ⟨B + 2, 0, none⟩) := hold 10 (by omega)
    have e13 : f2.tmps[13]?.getD undef = .slice (some ⟨Sa, 0, none⟩) n n := hold 13 (by omega)
    have e14 : f2.tmps[14]?.getD undef = .int .i64 (i : Int) := hold 14 (by omega)
    have e17 : f2.tmps[17]?.getD undef = .pointer (some ⟨A, 0, none⟩) := hold 17 (by omega)
    have e147 : f2.tmps[147]?.getD undef = .slice (some ⟨mb, mo, none⟩) ms.length mc := hold 147 (by omega)
    have e148 : f2.tmps[148]?.getD undef = .int .i64 (ms.length : Int) := hold 148 (by omega)
    have e149 : f2.tmps[149]?.getD undef = .int .i64 (k : Int) := hold 149 (by omega)
    obtain ⟨g2, hg2⟩ : ∃ g2 : Nat → Value, ∀ t, f2.tmps[t]?.getD undef = g2 t := ⟨_, fun _ => rfl⟩
    rw [hg2] at e0 e1 e2 e8 e9 e10 e13 e14 e17 e147 e148 e149
    rw [lit368 f2 g2 hg2 hsz hds, e0, e1, e2, e8, e9, e10, e13, e14, e17, e147, e148, e149]
    clear hg2 hsz hds e0 e1 e2 e8 e9 e10 e13 e14 e17 e147 e148 e149
    have hK2 : Keeps (fun k => k = A) w w2 := HK.out.trans hA2.keeps (fun j hj h => by
      rcases h with h | h
      · exact h
      · have := HN.out _ h; omega)
    have hO2 := hA2.owns
    have hR2 : w2.rowIs A 86 35 (amem af (.slice (some ⟨gg, 0, none⟩) (k + 1) cap)) := row_congr hA2.row (fun c _ => by unfold amem; split <;> rfl)
    have hN2 : ∀ g, (Value.slice (some ⟨gg, 0, none⟩) (k + 1) cap).ownBlock = some g → w.heap.size ≤ g := fun g hg => by
      obtain rfl : gg = g := by simpa [Value.ownBlock] using hg
      rcases hA2.at_ with h | h
      · exact HN.out _ h
      · exact Nat.le_trans HK.out.size h
    have HK2 : Hid (Keeps (fun k => k = A) w w2) := hK2
    have HO2 : Hid (w2.ownsRow B 32 1 (.slice (some ⟨gg, 0, none⟩) (k + 1) cap) (k + 1) ((ms.take (k + 1)).map fun m => ptr (aspb B (m % 4)))) := by rw [HX.out]; exact hO2
    have HR2 : Hid (w2.rowIs A 86 35 (amem af (.slice (some ⟨gg, 0, none⟩) (k + 1) cap))) := hR2
    have HN2 : Hid (∀ g, (Value.slice (some ⟨gg, 0, none⟩) (k + 1) cap).ownBlock = some g → w.heap.size ≤ g) := hN2
    clear hold hA2 hK2 hO2 hR2 hN2 HC HX HR HO HN HK
    first
      | (refine hK1 _ _ ?_; clear hK1; go_wp2_with fail; exact ⟨ms.length - (k + 1), by omega, k + 1, _, by omega, rfl, ⟨rfl, rfl, rfl, rfl, rfl, rfl, rfl, rfl, rfl, rfl, rfl, rfl, rfl, by first | rfl | go_num⟩, HR2.out, HO2.out, HN2.out, HK2.out⟩)
      | (go_wp2_with fail; exact ⟨ms.length - (k + 1), by omega, k + 1, _, by omega, rfl, ⟨rfl, rfl, rfl, rfl, rfl, rfl, rfl, rfl, rfl, rfl, rfl, rfl, rfl, by first | rfl | go_num⟩, HR2.out, HO2.out, HN2.out, HK2.out⟩)
  · obtain rfl : k = ms.length := by omega
    have hI1 : ¬ (ms.length : Int) < (ms.length : Int) := by omega
    rw [List.take_length] at HO
    clear hend hR hO hN hK hA h8 hsrc hpa
    go_wp2_with fail
    exact HE.out _ _ mv ⟨rfl, rfl, rfl, rfl, rfl, rfl, rfl, rfl, rfl, rfl, rfl, rfl, rfl, rfl⟩ HR.out HO.out HK.out
end Go.Proofs.YbulkbndkDoor.Pr
