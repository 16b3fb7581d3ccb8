/-
  DERIVED: THE SHELF's CONTRACTS AT THIS DUMP, IN PLAIN WORDS (tools/lay-plain.mjs out of 'YbaShelf.lean', which tools/lay-shelf.mjs wrote): THE SAME DECLARATIONS UNDER THE SAME NAMES: 'import', 'namespace', 'open', 'def', 'theorem' AND NOTHING ELSE: no command of the shelf's: FOR A HAND-IN. Each laying: the table of numbers ('.._ren') and one theorem, a field a fact of the dump's own or the kernel's comparison; each contract: ONE APPLICATION.
-/
import Derived.Shelf.Small.Wraps
import Derived.Shelf.Sort.Plain
import Derived.Shelf.Slices.Reverse
import Derived.Shelf.Slices.In.SortNone
import Derived.Shelf.Slices.Empties
import Derived.Ground.SlsfProg
import Derived.Shelf.SlSortCmp.NoneTotal
import Derived.Test.YbulkbnbuProg
namespace Go.Proofs
open Go.Shelf
def Yba.lays122_ren : Go.Shelf.Ren := ⟨fun | 122 => 26 | 215 => 39 | n => n, fun | 3 => 3 | 4 => 4 | n => n, fun | n => n⟩
theorem Yba.lays122 : Go.Proofs.Lays.n122 Yba.prog Yba.lays122_ren := {
  mixed := by kernel_rfl
  f122 := Yba.func26.trans (congrArg some (by kernel_rfl))
  f215 := Yba.func39.trans (congrArg some (by kernel_rfl))
  t3 := Yba.underlying3
  a3 := Yba.isAgg3
  z3 := Yba.sizeOf3
  v3 := Yba.zeroValue3
  t4 := Yba.underlying4
  a4 := Yba.isAgg4
  z4 := Yba.sizeOf4
  v4 := Yba.zeroValue4 }
open Go.RowKit in
/-- cmp.Compare at int: "Compare returns -1 if x is less than y, 0 if x equals y, +1 if x is greater than y.": IT RETURNS 'Lib.compareInt x y'; the world is as it was. (LAID: no walk: one application.) -/
theorem Yba.cmp_Compare_int (x y : Int) (w : World) :
    Calls Yba.prog 26 #[.int .i64 x, .int .i64 y] w fun e w' => e = .returned (.int .i64 (Lib.compareInt x y)) ∧ w' = w := Any.cmp_Compare_int Yba.lays122 x y w
def Yba.lays189_ren : Go.Shelf.Ren := ⟨fun | 189 => 28 | 125 => 38 | 257 => 41 | 128 => 59 | 129 => 60 | 294 => 61 | 295 => 62 | 296 => 63 | 297 => 64 | 298 => 65 | 299 => 66 | 216 => 49 | 300 => 67 | 301 => 68 | 328 => 80 | 329 => 76 | 330 => 77 | 331 => 81 | 332 => 82 | 215 => 39 | 343 => 85 | n => n, fun | 28 => 29 | 3 => 3 | 46 => 74 | 0 => 0 | 51 => 88 | 53 => 63 | 4 => 4 | 183 => 82 | 182 => 81 | 131 => 70 | 5 => 5 | 9 => 9 | 218 => 99 | 222 => 103 | 228 => 108 | 229 => 109 | n => n, fun | n => n⟩
theorem Yba.lays189 : Go.Proofs.Lays.n189 Yba.prog Yba.lays189_ren := {
  mixed := by kernel_rfl
  f125 := Yba.func38.trans (congrArg some (by kernel_rfl))
  f128 := Yba.func59.trans (congrArg some (by kernel_rfl))
  f129 := Yba.func60.trans (congrArg some (by kernel_rfl))
  f189 := Yba.func28.trans (congrArg some (by kernel_rfl))
  f215 := Yba.func39.trans (congrArg some (by kernel_rfl))
  f216 := Yba.func49.trans (congrArg some (by kernel_rfl))
  f257 := Yba.func41.trans (congrArg some (by kernel_rfl))
  f294 := Yba.func61.trans (congrArg some (by kernel_rfl))
  f295 := Yba.func62.trans (congrArg some (by kernel_rfl))
  f296 := Yba.func63.trans (congrArg some (by kernel_rfl))
  f297 := Yba.func64.trans (congrArg some (by kernel_rfl))
  f298 := Yba.func65.trans (congrArg some (by kernel_rfl))
  f299 := Yba.func66.trans (congrArg some (by kernel_rfl))
  f300 := Yba.func67.trans (congrArg some (by kernel_rfl))
  f301 := Yba.func68.trans (congrArg some (by kernel_rfl))
  f328 := Yba.func80.trans (congrArg some (by kernel_rfl))
  f329 := Yba.func76.trans (congrArg some (by kernel_rfl))
  f330 := Yba.func77.trans (congrArg some (by kernel_rfl))
  f331 := Yba.func81.trans (congrArg some (by kernel_rfl))
  f332 := Yba.func82.trans (congrArg some (by kernel_rfl))
  f343 := Yba.func85.trans (congrArg some (by kernel_rfl))
  t0 := Yba.underlying0
  a0 := Yba.isAgg0
  z0 := Yba.sizeOf0
  v0 := Yba.zeroValue0
  t3 := Yba.underlying3
  a3 := Yba.isAgg3
  z3 := Yba.sizeOf3
  v3 := Yba.zeroValue3
  t4 := Yba.underlying4
  a4 := Yba.isAgg4
  z4 := Yba.sizeOf4
  v4 := Yba.zeroValue4
  t5 := Yba.underlying5
  a5 := Yba.isAgg5
  z5 := Yba.sizeOf5
  v5 := Yba.zeroValue5
  t9 := Yba.underlying9
  a9 := Yba.isAgg9
  z9 := Yba.sizeOf9
  v9 := Yba.zeroValue9
  t28 := Yba.underlying29
  a28 := Yba.isAgg29
  z28 := Yba.sizeOf29
  v28 := Yba.zeroValue29
  t46 := Yba.underlying74
  a46 := Yba.isAgg74
  z46 := Yba.sizeOf74
  v46 := Yba.zeroValue74
  t51 := Yba.underlying88
  a51 := Yba.isAgg88
  z51 := Yba.sizeOf88
  v51 := Yba.zeroValue88
  t53 := Yba.underlying63
  a53 := Yba.isAgg63
  z53 := Yba.sizeOf63
  v53 := Yba.zeroValue63
  t131 := Yba.underlying70
  a131 := Yba.isAgg70
  z131 := Yba.sizeOf70
  v131 := Yba.zeroValue70
  t182 := Yba.underlying81
  a182 := Yba.isAgg81
  z182 := Yba.sizeOf81
  v182 := Yba.zeroValue81
  t183 := Yba.underlying82
  a183 := Yba.isAgg82
  z183 := Yba.sizeOf82
  v183 := Yba.zeroValue82
  t218 := Yba.underlying99
  a218 := Yba.isAgg99
  z218 := Yba.sizeOf99
  v218 := Yba.zeroValue99
  t222 := Yba.underlying103
  a222 := Yba.isAgg103
  z222 := Yba.sizeOf103
  v222 := Yba.zeroValue103
  t228 := Yba.underlying108
  a228 := Yba.isAgg108
  z228 := Yba.sizeOf108
  v228 := Yba.zeroValue108
  t229 := Yba.underlying109
  a229 := Yba.isAgg109
  z229 := Yba.sizeOf109
  v229 := Yba.zeroValue109 }
open Go.Sort Go.RowKit in
theorem Yba.slices_Sort_int (blk off cap : Nat) (zs : List Int) (w : World) (hH : Holds (Value.int .i64) w blk off zs.toArray) (hblk : blk < w.heap.size) (hsz : zs.length < 4611686018427387904) :
    Calls Yba.prog 28 #[.slice (some ⟨blk, off, none⟩) zs.length cap] w fun e w' =>
      e = .returned (.tuple #[]) ∧ ∃ n os, w' = grow (putRow (Value.int .i64) (Sort.ahead w n) blk off (zs.mergeSort fun x y => decide (x ≤ y)).toArray) os := Any.slices_Sort_int Yba.lays189 blk off cap zs w hH hblk hsz
def Yba.lays112_ren : Go.Shelf.Ren := ⟨fun | 112 => 21 | n => n, fun | 28 => 29 | 3 => 3 | 4 => 4 | 0 => 0 | n => n, fun | n => n⟩
theorem Yba.lays112 : Go.Proofs.Lays.n112 Yba.prog Yba.lays112_ren := {
  mixed := by kernel_rfl
  f112 := Yba.func21.trans (congrArg some (by kernel_rfl))
  t0 := Yba.underlying0
  a0 := Yba.isAgg0
  z0 := Yba.sizeOf0
  v0 := Yba.zeroValue0
  t3 := Yba.underlying3
  a3 := Yba.isAgg3
  z3 := Yba.sizeOf3
  v3 := Yba.zeroValue3
  t4 := Yba.underlying4
  a4 := Yba.isAgg4
  z4 := Yba.sizeOf4
  v4 := Yba.zeroValue4
  t28 := Yba.underlying29
  a28 := Yba.isAgg29
  z28 := Yba.sizeOf29
  v28 := Yba.zeroValue29 }
open Go.RowKit Go.Lib Go.Sort in
/-- slices.Reverse at []int: "Reverse reverses the elements of the slice in place.": THE SLICE's CELLS HOLD 'zs.reverse' BEHIND THE CALL; all else is as it was, but for the count of draws (the exchange 's[i], s[j] = s[j], s[i]' draws its order, once a round). IN THE WORDS OF slices.Sort's CONTRACT: 'Holds': the cells hold zs and none is frozen; 'putRow': the world with those cells holding another array. A slice of length 0 that is not nil is among them ('zs = []'); nil: '.._nil'. (LAID: no walk: one application.) -/
theorem Yba.slices_Reverse_int (blk off cap : Nat) (zs : List Int) (w : World) (hH : Holds (Value.int .i64) w blk off zs.toArray) (hsz : zs.length ≤ 9223372036854775807) :
    Calls Yba.prog 21 #[.slice (some ⟨blk, off, none⟩) zs.length cap] w fun e w' => e = .returned (.tuple #[]) ∧ ∃ n, w' = putRow (Value.int .i64) (Sort.ahead w n) blk off zs.reverse.toArray := Any.slices_Reverse_int Yba.lays112 blk off cap zs w hH hsz
open Go.RowKit Go.Lib Go.Sort in
/-- The same at a slice of length 0, a nil one too: nothing is read, nothing written, nothing drawn. (LAID: no walk: one application.) -/
theorem Yba.slices_Reverse_int_empty (a : Option Addr) (cap : Nat) (w : World) :
    Calls Yba.prog 21 #[.slice a 0 cap] w fun e w' => e = .returned (.tuple #[]) ∧ w' = w := Any.slices_Reverse_int_empty Yba.lays112 a cap w
open Go.RowKit Go.Sort in
/-- .. and plain. (LAID: no walk: one application.) -/
theorem Yba.slices_Sort_int_none (p : Option Addr) (cap : Nat) (w : World) :
    Calls Yba.prog 28 #[.slice p 0 cap] w fun e w' => e = .returned (.tuple #[]) ∧ w' = w := Any.slices_Sort_int_none Yba.lays189 p cap w
def Yba.laysSlF6_f23_ren : Go.Shelf.Ren := ⟨fun | 6 => 23 | 15 => 38 | 14 => 37 | 28 => 59 | 29 => 60 | 20 => 51 | 21 => 52 | 22 => 53 | 23 => 54 | 24 => 55 | 25 => 56 | 26 => 57 | 27 => 58 | 46 => 75 | 47 => 76 | 48 => 77 | 49 => 78 | 50 => 79 | 57 => 84 | n => n, fun | 22 => 29 | 24 => 3 | 25 => 35 | 3 => 3 | 39 => 74 | 0 => 0 | 53 => 88 | 55 => 63 | 4 => 4 | 46 => 82 | 45 => 81 | 50 => 70 | 5 => 5 | 9 => 9 | 66 => 99 | 70 => 103 | 76 => 108 | 77 => 109 | n => n, fun | n => n⟩
theorem Yba.laysSlF6_f23 : Go.Proofs.SlLaysF.n6 Yba.prog Yba.laysSlF6_f23_ren := {
  mixed := by kernel_rfl
  f6 := ⟨Yba.f23.name, by decide, Yba.func23.trans (congrArg some (by kernel_rfl))⟩
  f14 := ⟨Yba.f37.name, by decide, Yba.func37.trans (congrArg some (by kernel_rfl))⟩
  f15 := Yba.func38.trans (congrArg some (by kernel_rfl))
  f20 := ⟨Yba.f51.name, by decide, Yba.func51.trans (congrArg some (by kernel_rfl))⟩
  f21 := ⟨Yba.f52.name, by decide, Yba.func52.trans (congrArg some (by kernel_rfl))⟩
  f22 := ⟨Yba.f53.name, by decide, Yba.func53.trans (congrArg some (by kernel_rfl))⟩
  f23 := ⟨Yba.f54.name, by decide, Yba.func54.trans (congrArg some (by kernel_rfl))⟩
  f24 := ⟨Yba.f55.name, by decide, Yba.func55.trans (congrArg some (by kernel_rfl))⟩
  f25 := ⟨Yba.f56.name, by decide, Yba.func56.trans (congrArg some (by kernel_rfl))⟩
  f26 := ⟨Yba.f57.name, by decide, Yba.func57.trans (congrArg some (by kernel_rfl))⟩
  f27 := ⟨Yba.f58.name, by decide, Yba.func58.trans (congrArg some (by kernel_rfl))⟩
  f28 := Yba.func59.trans (congrArg some (by kernel_rfl))
  f29 := Yba.func60.trans (congrArg some (by kernel_rfl))
  f46 := ⟨Yba.f75.name, by decide, Yba.func75.trans (congrArg some (by kernel_rfl))⟩
  f47 := Yba.func76.trans (congrArg some (by kernel_rfl))
  f48 := Yba.func77.trans (congrArg some (by kernel_rfl))
  f49 := ⟨Yba.f78.name, by decide, Yba.func78.trans (congrArg some (by kernel_rfl))⟩
  f50 := ⟨Yba.f79.name, by decide, Yba.func79.trans (congrArg some (by kernel_rfl))⟩
  f57 := ⟨Yba.f84.name, by decide, Yba.func84.trans (congrArg some (by kernel_rfl))⟩
  t0 := Yba.underlying0
  a0 := Yba.isAgg0
  z0 := Yba.sizeOf0
  v0 := Yba.zeroValue0
  t3 := Yba.underlying3
  a3 := Yba.isAgg3
  z3 := Yba.sizeOf3
  v3 := Yba.zeroValue3
  t4 := Yba.underlying4
  a4 := Yba.isAgg4
  z4 := Yba.sizeOf4
  v4 := Yba.zeroValue4
  t5 := Yba.underlying5
  a5 := Yba.isAgg5
  z5 := Yba.sizeOf5
  v5 := Yba.zeroValue5
  t9 := Yba.underlying9
  a9 := Yba.isAgg9
  z9 := Yba.sizeOf9
  v9 := Yba.zeroValue9
  t22 := Yba.underlying29
  a22 := Yba.isAgg29
  z22 := Yba.sizeOf29
  v22 := Yba.zeroValue29
  a24 := Yba.isAgg3
  z24 := Yba.sizeOf3
  t25 := Yba.underlying35
  a25 := Yba.isAgg35
  z25 := Yba.sizeOf35
  v25 := Yba.zeroValue35
  t39 := Yba.underlying74
  a39 := Yba.isAgg74
  z39 := Yba.sizeOf74
  v39 := Yba.zeroValue74
  t45 := Yba.underlying81
  a45 := Yba.isAgg81
  z45 := Yba.sizeOf81
  v45 := Yba.zeroValue81
  t46 := Yba.underlying82
  a46 := Yba.isAgg82
  z46 := Yba.sizeOf82
  v46 := Yba.zeroValue82
  t50 := Yba.underlying70
  a50 := Yba.isAgg70
  z50 := Yba.sizeOf70
  v50 := Yba.zeroValue70
  t53 := Yba.underlying88
  a53 := Yba.isAgg88
  z53 := Yba.sizeOf88
  v53 := Yba.zeroValue88
  t55 := Yba.underlying63
  a55 := Yba.isAgg63
  z55 := Yba.sizeOf63
  v55 := Yba.zeroValue63
  t66 := Yba.underlying99
  a66 := Yba.isAgg99
  z66 := Yba.sizeOf99
  v66 := Yba.zeroValue99
  t70 := Yba.underlying103
  a70 := Yba.isAgg103
  z70 := Yba.sizeOf103
  v70 := Yba.zeroValue103
  t76 := Yba.underlying108
  a76 := Yba.isAgg108
  z76 := Yba.sizeOf108
  v76 := Yba.zeroValue108
  t77 := Yba.underlying109
  a77 := Yba.isAgg109
  z77 := Yba.sizeOf109
  v77 := Yba.zeroValue109 }
open Go.RowKit Go.Lib Go.Sort in
/-- **slices.SortFunc AT ONE CELL, UNDER A 'cmp' THAT PARTS WHATEVER TWO THAT ARE NOT ONE: THE ROW HOLDS core's 'mergeSort'.** (LAID AT THE INSTANCE 'slices.SortFunc[[]int,int]': no walk: one application.) -/
theorem Yba.slices_SortFunc_total {α : Type} [Inhabited α] (enc : α → Value) (h1 : OneCell enc) (cf : α → α → Int) (hO : SWO (ltOf cf)) (g : Nat) (cb : Array Value) (blk off cap : Nat) (d : Array α) (w : World) (eg : ∀ args w, (callFunc g args).run Yba.prog w = .ok (.enter g args) w) (hcmp : CmpLays1 Yba.prog g cb enc cf blk off d.size w) (hH : Holds enc w blk off d) (hblk : blk < w.heap.size) (hsz : d.size < 4611686018427387904) (hT : ∀ x y, (ltOf cf) x y = false → (ltOf cf) y x = false → x = y) :
    Calls Yba.prog 23 #[.slice (some ⟨blk, off, none⟩) d.size cap, .func (.func g) #[] cb] w fun e w' =>
      e = .returned (.tuple #[]) ∧ ∃ n os, w' = sortWorld enc w blk off n (d.toList.mergeSort fun x y => !(ltOf cf) y x).toArray os := Any.slices_SortFunc_total Yba.laysSlF6_f23 enc h1 cf hO g cb blk off cap d w eg hcmp hH hblk hsz hT
end Go.Proofs
