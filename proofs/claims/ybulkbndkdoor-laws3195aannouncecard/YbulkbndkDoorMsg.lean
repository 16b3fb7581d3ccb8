/-
  The Notify messages: how they are made, how the law reads them.
-/
import Derived.Test.YbulkbndkDoorBase
namespace Go.Proofs.YbulkbndkDoor.Pr
set_option linter.unusedSimpArgs false
open Go.ChangeShapes Go.WideShapes Go.ChangeAt Go.RowKit

def bytesOf (x : Nat) : List Value := [.int .u8 ((x : Int) / 16777216), .int .u8 ((x : Int) / 65536 % 256), .int .u8 ((x : Int) / 256 % 256), .int .u8 ((x : Int) % 256)]

theorem heap_new2 (w : World) (o o' : Obj) : ((w.alloc o).alloc o').heap[w.heap.size + 1]? = some o' := by
  have := heap_alloc_new (w.alloc o) o'
  simpa using this
theorem news1 (w : World) (cs : Array Value) (t : TypeId) : ∀ j u, cs.toList[j]? = some u → (w.alloc (.cells cs t)).cell? ((⟨w.heap.size, 0, none⟩ : Addr).add j) = some u := World.news_of_block (heap_alloc_new w (.cells cs t))
theorem news2 (w : World) (o : Obj) (cs : Array Value) (t : TypeId) : ∀ j u, cs.toList[j]? = some u → ((w.alloc o).alloc (.cells cs t)).cell? ((⟨w.heap.size + 1, 0, none⟩ : Addr).add j) = some u := World.news_of_block (heap_new2 w o (.cells cs t))

set_option maxRecDepth 100000 in
set_option maxHeartbeats 1000000 in
theorem append32_any (x : Nat) (hx : x < 4294967296) (v : Value) (w : World) (hv : w.ownsRow 0 5 1 v 0 []) : Calls Ybad.prog 25 #[.agg #[], v, .int .u32 (x : Int)] w fun e w' =>
    ∃ g c, e = .returned (.slice (some ⟨g, 0, none⟩) 4 c) ∧ w'.ownsRow 0 5 1 (.slice (some ⟨g, 0, none⟩) 4 c) 4 (bytesOf x) ∧ ∃ w0, Fr 0 [] w w0 ∧ w0.grownBy w' v.ownBlock := by
  obtain ⟨i0, hi0, hz0, hz1, hz2⟩ := info_parts info5
  have hx0 : (0 : Int) ≤ (x : Int) := by omega
  have HV : Hid (w.ownsRow 0 5 1 v 0 []) := hv
  clear hv
  go_enter Ybad.func25, Ybad.ntmps25
  go_wp2_with (at_builtin; go_loud (refine wpList_append_lies _ rfl (.tmp 7) (.tmp 19) 23 rfl 0 5 i0 _ 1 1 Ybad.underlying23 hi0 hz0 hz1 hz2 rfl (by omega) v 0 [] rfl ((HV.out.alloc _).alloc _) ⟨w.heap.size + 1, 0, none⟩ 4 4 (bytesOf x) (by rfl) (by rfl) (news2 w _ (bytesOf x).toArray 5) (by intro q hq; simp [bytesOf] at hq; rcases hq with rfl | rfl | rfl | rfl <;> rfl) (by omega) (by unfold maxLen; omega) (by omega) (by omega) _ rfl ?_; intro gg cap w3 ho hgrow hat hlt; have HO : Hid (_) := ho; have HG : Hid (_) := hgrow; clear ho hgrow hat hlt))
  go_ret
  exact ⟨gg, cap, rfl, HO.out, _, ((Fr.refl 0 [] w).alloc _).alloc _, HG.out⟩

theorem or32 (a b M k : Nat) (hM : M = 2 ^ k) (ha : a * M < 4294967296) (hb : b < M) (hb' : b < 4294967296) : bits .or .u32 ((a * M : Nat) : Int) (b : Int) = ((a * M + b : Nat) : Int) := by
  subst hM
  rw [u32_or_nat _ _ ha hb', ← Nat.shiftLeft_eq, Nat.shiftLeft_add_eq_or_of_lt hb]

set_option maxRecDepth 100000 in
theorem be_eq (p0 p1 p2 p3 : Nat) (l0 : p0 < 256) (l1 : p1 < 256) (l2 : p2 < 256) (l3 : p3 < 256) : bits .or .u32 (bits .or .u32 (bits .or .u32 ((p0 : Int) * 16777216) ((p1 : Int) * 65536)) ((p2 : Int) * 256)) (p3 : Int) = ((p0 * 16777216 + p1 * 65536 + p2 * 256 + p3 : Nat) : Int) := by
  have h1 := or32 p0 (p1 * 65536) 16777216 24 rfl (by omega) (by omega) (by omega)
  have h2 := or32 (p0 * 256 + p1) (p2 * 256) 65536 16 rfl (by omega) (by omega) (by omega)
  have h3 := or32 (p0 * 65536 + p1 * 256 + p2) p3 256 8 rfl (by omega) (by omega) (by omega)
  have a1 : (p0 : Int) * 16777216 = ((p0 * 16777216 : Nat) : Int) := by omega
  have a2 : (p1 : Int) * 65536 = ((p1 * 65536 : Nat) : Int) := by omega
  have a3 : (p2 : Int) * 256 = ((p2 * 256 : Nat) : Int) := by omega
  have a4 : p0 * 16777216 + p1 * 65536 = (p0 * 256 + p1) * 65536 := by simp only [Nat.add_mul, Nat.mul_assoc]
  have a5 : (p0 * 256 + p1) * 65536 + p2 * 256 = (p0 * 65536 + p1 * 256 + p2) * 256 := by simp only [Nat.add_mul, Nat.mul_assoc]
  have a6 : (p0 * 65536 + p1 * 256 + p2) * 256 + p3 = p0 * 16777216 + p1 * 65536 + p2 * 256 + p3 := by simp only [Nat.add_mul, Nat.mul_assoc]
  rw [a1, a2, a3, h1, a4, h2, a5, h3, a6]

set_option maxRecDepth 100000 in
set_option maxHeartbeats 1000000 in
theorem be_any (b : Nat) (c : Nat) (x : Nat) (hx : x < 4294967296) (w : World) (hb : ∀ i u, (bytesOf x)[i]? = some u → w.cell? ⟨b, i, none⟩ = some u) :
    Calls Ybad.prog 14 #[.slice (some ⟨b, 0, none⟩) 4 c] w fun e w' => e = .returned (.tuple #[.int .u32 (x : Int), .bool true]) ∧ ∃ k, w' = w.drewN k := by
  obtain ⟨p0, e0⟩ : ∃ p : Nat, p = x / 16777216 := ⟨_, rfl⟩
  obtain ⟨p1, e1⟩ : ∃ p : Nat, p = x / 65536 % 256 := ⟨_, rfl⟩
  obtain ⟨p2, e2⟩ : ∃ p : Nat, p = x / 256 % 256 := ⟨_, rfl⟩
  obtain ⟨p3, e3⟩ : ∃ p : Nat, p = x % 256 := ⟨_, rfl⟩
  have hs : p0 * 16777216 + p1 * 65536 + p2 * 256 + p3 = x := by omega
  have l0 : p0 < 256 := by omega
  have l1 : p1 < 256 := by omega
  have l2 : p2 < 256 := by omega
  have l3 : p3 < 256 := by omega
  have h0 : w.cell? ⟨b, 0, none⟩ = some (.int .u8 (p0 : Int)) := by rw [hb 0 _ rfl]; congr 2; omega
  have h1 : w.cell? ⟨b, 1, none⟩ = some (.int .u8 (p1 : Int)) := by rw [hb 1 _ rfl]; congr 2; omega
  have h2 : w.cell? ⟨b, 2, none⟩ = some (.int .u8 (p2 : Int)) := by rw [hb 2 _ rfl]; congr 2; omega
  have h3 : w.cell? ⟨b, 3, none⟩ = some (.int .u8 (p3 : Int)) := by rw [hb 3 _ rfl]; congr 2; omega
  have HE : Hid (_) := be_eq p0 p1 p2 p3 l0 l1 l2 l3
  have HS : Hid (_) := hs
  clear hb e0 e1 e2 e3 hs
  go_enter Ybad.func14, Ybad.ntmps14
  go_wp2_with fail
  go_quiet (fail)
  go_wp2_with fail
  go_ret2
  refine ⟨?_, _, rfl⟩
  refine (congrArg (fun z => Ending.returned (Value.tuple #[Value.int .u32 z, Value.bool true])) HE.out).trans ?_
  rw [HS.out]
end Go.Proofs.YbulkbndkDoor.Pr
