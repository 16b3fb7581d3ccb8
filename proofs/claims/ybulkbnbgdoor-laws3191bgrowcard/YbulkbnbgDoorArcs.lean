/-
  'zzs3191baddarcs' (function 6), the whole function.
-/
import Derived.Test.YbulkbnbgDoorLogs
namespace Go.Proofs.YbulkbnbgDoor.Pr
set_option linter.unusedSimpArgs false
open Go.ChangeShapes Go.WideShapes Go.ChangeAt Go.RowKit

theorem info3 : (Ybad.prog.info? 3).map (fun i => (i.zero, i.size, i.bytes)) = some (some (.int .i64 0), 1, 8) := by kernel_rfl

def adjOf (ps : List (Nat × Nat)) (u : Nat) : List Nat := (ps.filter fun p => p.1 = u).map (·.2)
theorem adjOf_push (ps : List (Nat × Nat)) (u v : Nat) : adjOf (ps ++ [(u, v)]) = fun j => if j = u then adjOf ps u ++ [v] else adjOf ps j := by
  funext j
  unfold adjOf
  by_cases e : j = u
  · subst e; simp
  · rw [if_neg e]; simp [Ne.symm e, List.filter_append]
theorem adjOf_len (ps : List (Nat × Nat)) (u : Nat) : (adjOf ps u).length ≤ ps.length := by
  unfold adjOf
  rw [List.length_map]
  exact List.length_filter_le _ _

/-- The arcs that the first k drawn ones make: no loops. -/
def logs (n : Nat) (x y : Nat → Nat) : Nat → List (Nat × Nat)
  | 0 => []
  | k + 1 => logs n x y k ++ if x k % n = y k % n then [] else [(x k % n, y k % n)]
theorem logs_len (n : Nat) (x y : Nat → Nat) : ∀ k, (logs n x y k).length ≤ k
  | 0 => by simp [logs]
  | k + 1 => by
    have := logs_len n x y k
    unfold logs
    split <;> simp <;> omega
theorem logs_mem {n : Nat} (hn : 0 < n) (x y : Nat → Nat) : ∀ k p, p ∈ logs n x y k → p.1 < n ∧ p.2 < n ∧ p.1 ≠ p.2
  | 0, p, h => by simp [logs] at h
  | k + 1, p, h => by
    unfold logs at h
    rcases List.mem_append.1 h with h | h
    · exact logs_mem hn x y k p h
    · split at h
      · cases h
      · rename_i hne
        obtain rfl : p = (x k % n, y k % n) := by simpa using h
        exact ⟨Nat.mod_lt _ hn, Nat.mod_lt _ hn, hne⟩

/-- The drawn arcs in memory. -/
def Src2 (D : Nat → Prop) (w : World) (a : Option Addr) (len : Nat) (x y : Nat → Nat) : Prop :=
  ∀ i, i < len → ∃ b off, a = some ⟨b, off, none⟩ ∧ b < w.heap.size ∧ ¬ D b ∧ w.cell? ⟨b, off + i * 2, none⟩ = some (.int .u8 (x i : Int)) ∧ w.cell? ⟨b, off + i * 2 + 1, none⟩ = some (.int .u8 (y i : Int)) ∧ x i ≤ 255 ∧ y i ≤ 255

def F6 (gB n : Nat) (a : Option Addr) (len cap : Nat) (vu vv : Value) (k : Nat) (f : Act) : Prop :=
  f.tmps.size = 63 ∧ f.defers = [] ∧ f.tmps[0]?.getD undef = .pointer (some ⟨gB, 0, none⟩) ∧ f.tmps[1]?.getD undef = .int .i64 (n : Int) ∧ f.tmps[3]?.getD undef = vu ∧ f.tmps[4]?.getD undef = vv ∧
  f.tmps[16]?.getD undef = .slice a len cap ∧ f.tmps[17]?.getD undef = .int .i64 (len : Int) ∧ f.tmps[18]?.getD undef = .int .i64 (k : Int)

def Lg (n gB S : Nat) (ps : List (Nat × Nat)) (sv : Nat → Value) (vu vv : Value) (w : World) : Prop := Ad n gB S (adjOf ps) (ps.map (·.1)) (ps.map (·.2)) sv vu vv w

def A6 (n gB S : Nat) (ps0 : List (Nat × Nat)) (x y : Nat → Nat) (a : Option Addr) (len cap : Nat) (sv0 : Nat → Value) (vu0 vv0 : Value) (w0 : World) (m : Nat) (f : Act) (w : World) : Prop :=
  ∃ k sv vu vv, k ≤ len ∧ m = len - k ∧ F6 gB n a len cap vu vv k f ∧ Lg n gB S (ps0 ++ logs n x y k) sv vu vv w ∧ AdF n gB S sv0 vu0 vv0 w0 sv vu vv w

set_option maxRecDepth 100000 in
set_option maxHeartbeats 4000000 in
theorem arcs_any (n gB S : Nat) (hn1 : 1 ≤ n) (hn2 : n ≤ 80) (ps0 : List (Nat × Nat)) (hps : ps0.length ≤ 1024) (x y : Nat → Nat) (a : Option Addr) (len cap : Nat) (hlen : len ≤ 1024) (sv0 : Nat → Value) (vu0 vv0 : Value) (w0 : World)
    (hA : Lg n gB S ps0 sv0 vu0 vv0 w0) (hsrc : Src2 (adblk n gB S sv0 vu0 vv0) w0 a len x y) :
    Calls Ybad.prog 6 #[.pointer (some ⟨gB, 0, none⟩), .int .i64 (n : Int), .slice a len cap, vu0, vv0] w0 fun e w' => ∃ vu vv, e = .returned (.tuple #[vu, vv]) ∧ ∃ sv, Lg n gB S (ps0 ++ logs n x y len) sv vu vv w' ∧ AdF n gB S sv0 vu0 vv0 w0 sv vu vv w' := by
  obtain ⟨i0, hi0, hz0, hz1, hz2⟩ := info_parts info3
  go_enter Ybad.func6, Ybad.ntmps6
  go_wp2_with fail
  rename_i K hKont
  refine wp_loop_ghost (A6 n gB S ps0 x y a len cap sv0 vu0 vv0 w0) len ⟨0, sv0, vu0, vv0, Nat.zero_le _, rfl, ⟨rfl, rfl, rfl, rfl, rfl, rfl, rfl, rfl, rfl⟩, by simpa [logs] using hA, AdF.refl _ _ _ _ _ _ _⟩ ?_
  rintro m f w ⟨k, sv, vu, vv, hk, rfl, ⟨hsz, hds, e0, e1, e3, e4, e16, e17, e18⟩, hL, hF⟩
  obtain ⟨g, hg⟩ : ∃ g : Nat → Value, ∀ t, f.tmps[t]?.getD undef = g t := ⟨_, fun _ => rfl⟩
  rw [hg] at e0 e1 e3 e4 e16 e17 e18
  rw [lit63 f g hg hsz hds, e0, e1, e3, e4, e16, e17, e18]
  clear hg hsz hds e0 e1 e3 e4 e16 e17 e18
  by_cases hlt : k < len
  · obtain ⟨b, off, rfl, hbl, hbD, hc0, hc1, hx, hy⟩ := hsrc k hlt
    have hI0 : (0 : Int) ≤ (k : Int) := by omega
    have hI1 : (k : Int) < (len : Int) := by omega
    have hcx : w.cell? ⟨b, off + k * 2, none⟩ = some (.int .u8 (x k : Int)) := by rw [World.cell?_of_block (hF.1.block b hbl hbD)]; exact hc0
    have hcy : w.cell? ⟨b, off + k * 2 + 1, none⟩ = some (.int .u8 (y k : Int)) := by rw [World.cell?_of_block (hF.1.block b hbl hbD)]; exact hc1
    obtain ⟨u, hud⟩ : ∃ u, u = x k % n := ⟨_, rfl⟩
    obtain ⟨v, hvd⟩ : ∃ v, v = y k % n := ⟨_, rfl⟩
    have hmx : (x k : Int) % (n : Int) = (u : Int) := by rw [hud]; push_cast; rfl
    have hmy : (y k : Int) % (n : Int) = (v : Int) := by rw [hvd]; push_cast; rfl
    have hu : u < n := by rw [hud]; exact Nat.mod_lt _ (by omega)
    have hv : v < n := by rw [hvd]; exact Nat.mod_lt _ (by omega)
    have HL : Hid (_) := hL
    have HF : Hid (AdF n gB S sv0 vu0 vv0 w0 sv vu vv w) := hF
    clear hL hF hc0 hc1
    by_cases heq : u = v
    · have hq : ((x k : Int) % (n : Int) == (y k : Int) % (n : Int)) = true := by rw [hmx, hmy, heq]; simp
      have h0 : logs n x y (k + 1) = logs n x y k := by rw [logs, if_pos (by rw [← hud, ← hvd]; exact heq), List.append_nil]
      have HN : Hid (_) := h0
      clear hmx hmy heq h0
      go_wp2_with fail
      refine ⟨len - (k + 1), by omega, k + 1, sv, vu, vv, by omega, rfl, ⟨rfl, rfl, rfl, rfl, rfl, rfl, rfl, rfl, by first | rfl | go_num⟩, ?_, HF.out.alloc _⟩
      rw [HN.out]
      exact Ad.alloc HL.out _
    · have hq : ((x k : Int) % (n : Int) == (y k : Int) % (n : Int)) = false := by rw [hmx, hmy]; simp; omega
      have h0 : ps0 ++ logs n x y (k + 1) = (ps0 ++ logs n x y k) ++ [(u, v)] := by rw [logs, if_neg (by rw [← hud, ← hvd]; exact heq), ← hud, ← hvd, List.append_assoc]
      have HN : Hid (_) := h0
      have HM : Hid ((x k : Int) % (n : Int) = (u : Int) ∧ (y k : Int) % (n : Int) = (v : Int)) := ⟨hmx, hmy⟩
      have hpl : (ps0 ++ logs n x y k).length ≤ 2048 := by
        have := logs_len n x y k
        simp; omega
      clear hmx hmy h0
      go_wp2_with fail
      have hA1 : Lg n gB S (ps0 ++ logs n x y k) sv vu vv _ := Ad.alloc HL.out (Obj.cells #[Value.int IntKind.u8 (x k : Int), Value.int IntKind.u8 (y k : Int)] 53)
      have hF1 := HF.out.alloc (Obj.cells #[Value.int IntKind.u8 (x k : Int), Value.int IntKind.u8 (y k : Int)] 53)
      generalize ps0 ++ logs n x y k = ps at *
      have hal := adjOf_len ps u
      rename_i K3 hKont3
      refine app_region gB S n u v sv (adjOf ps u).length (trailCells (adjOf ps u)) _ _ hu (by omega) (by omega) hA1.gr.g hA1.gr.row (hA1.gr.sub u hu) (fun e => (hA1.gr.sep u gB hu e).1 rfl) (fun e => (hA1.gr.sep u S hu e).2.1 rfl) hA1.gr.ne rfl rfl (congrArg (Value.int .i64) HM.out.1) (congrArg (Value.int .i64) HM.out.2) rfl ?_
      intro f' w2 gg cap' hsz hds hold ho hat hrow hK
      obtain ⟨sv1, hA2, hF2⟩ := hA1.pushG hu hv heq (by omega) ho hat hrow hK
      have hF3 := hF1.trans hF2
      clear ho hat hrow hK hA1 hF1 hF2 hcx hcy
      have e0 : f'.tmps[0]?.getD undef = .pointer (some ⟨gB, 0, none⟩) := hold 0 (by omega)
      have e1 : f'.tmps[1]?.getD undef = .int .i64 (n : Int) := hold 1 (by omega)
      have e3 : f'.tmps[3]?.getD undef = vu := hold 3 (by omega)
      have e4 : f'.tmps[4]?.getD undef = vv := hold 4 (by omega)
      have e14 : f'.tmps[14]?.getD undef = .int .i64 (u : Int) := (hold 14 (by omega)).trans (congrArg (Value.int .i64) HM.out.1)
      have e15 : f'.tmps[15]?.getD undef = .int .i64 (v : Int) := (hold 15 (by omega)).trans (congrArg (Value.int .i64) HM.out.2)
      have e16 : f'.tmps[16]?.getD undef = .slice (some ⟨b, off, none⟩) len cap := hold 16 (by omega)
      have e17 : f'.tmps[17]?.getD undef = .int .i64 (len : Int) := hold 17 (by omega)
      have e18 : f'.tmps[18]?.getD undef = .int .i64 (k : Int) := hold 18 (by omega)
      clear hold
      obtain ⟨g', hg'⟩ : ∃ g : Nat → Value, ∀ t, f'.tmps[t]?.getD undef = g t := ⟨_, fun _ => rfl⟩
      rw [hg'] at e0 e1 e3 e4 e14 e15 e16 e17 e18
      rw [lit63 f' g' hg' hsz hds, e0, e1, e3, e4, e14, e15, e16, e17, e18]
      clear hg' hsz hds e0 e1 e3 e4 e14 e15 e16 e17 e18
      refine hKont3 _ _ ?_
      clear hKont3
      have HA2 : Hid (_) := hA2
      have HF3 : Hid (_) := hF3
      clear hA2 hF3
      have hxl : (ps.map (·.1)).length = ps.length := by simp
      have hyl : (ps.map (·.2)).length = ps.length := by simp
      clear hud hvd
      go_wp2_with (at_builtin; first | (refine wpList_append_lies _ rfl (.tmp 52) (.tmp 54) 29 rfl 0 3 i0 _ 1 8 Ybad.underlying29 hi0 hz0 hz1 hz2 rfl (by omega) vu (ps.map (·.1)).length (ints (ps.map (·.1))) rfl (Ad.alloc HA2.out _).us ⟨w2.heap.size, 0, none⟩ 1 1 [.int .i64 (u : Int)] rfl rfl (by intro j q hj; match j, hj with | 0, hj => simp at hj; subst hj; simp [Addr.add]) (by intro q hq; simp at hq; subst hq; rfl) (by omega) (by unfold maxLen; omega) (by omega) (by omega) _ rfl ?_; intro gg2 cap2 w3 ho2 hgrow2 hat2 hlt2; have HU : Hid (_) := Ad.pushU (Ad.alloc HA2.out _) ho2 (hat2.imp id (fun e => Nat.le_of_eq e.symm)) hgrow2; clear ho2 hgrow2 hat2 hlt2) | (refine wpList_append_lies _ rfl (.tmp 56) (.tmp 58) 29 rfl 0 3 i0 _ 1 8 Ybad.underlying29 hi0 hz0 hz1 hz2 rfl (by omega) vv (ps.map (·.2)).length (ints (ps.map (·.2))) rfl (Ad.alloc HU.out.1 _).vs ⟨w3.heap.size, 0, none⟩ 1 1 [.int .i64 (v : Int)] rfl rfl (by intro j q hj; match j, hj with | 0, hj => simp at hj; subst hj; simp [Addr.add]) (by intro q hq; simp at hq; subst hq; rfl) (by omega) (by unfold maxLen; omega) (by omega) (by omega) _ rfl ?_; intro gg3 cap3 w4 ho3 hgrow3 hat3 hlt3; have HV : Hid (_) := Ad.pushV (Ad.alloc HU.out.1 _) ho3 (hat3.imp id (fun e => Nat.le_of_eq e.symm)) hgrow3; clear ho3 hgrow3 hat3 hlt3))
      refine ⟨len - (k + 1), by omega, k + 1, sv1, _, _, by omega, rfl, ⟨rfl, rfl, rfl, rfl, rfl, rfl, rfl, rfl, by first | rfl | go_num⟩, ?_, ?_⟩
      · rw [HN.out]
        unfold Lg
        rw [adjOf_push, List.map_append, List.map_append]
        have hV := HV.out.1
        simp only [hxl, hyl] at hV
        exact hV
      · have hV := AdF.trans (AdF.alloc (AdF.trans (AdF.alloc HF3.out _) HU.out.2) _) HV.out.2
        simp only [hxl, hyl] at hV
        exact hV
  · obtain rfl : k = len := by omega
    have hI1 : ¬ (k : Int) < (k : Int) := by omega
    have HL : Hid (_) := hL
    have HF : Hid (_) := hF
    clear hL hF
    go_wp2_with fail
    go_ret2
    exact ⟨_, _, rfl, _, HL.out, HF.out⟩
end Go.Proofs.YbulkbnbgDoor.Pr
