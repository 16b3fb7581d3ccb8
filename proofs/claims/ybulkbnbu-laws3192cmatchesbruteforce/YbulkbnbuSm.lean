/-
  The staircase's 'add' (function 30): what its sweep holds; the plain machine; what it says of memory.
-/
import Derived.Test.YbulkbnbuR36
import Derived.Test.YbulkbnbuR24
import Derived.Test.YbulkbnbuR8
import Derived.Test.YbulkbnbuR46
namespace Go.Proofs.Ybulkbnbu.Kn
set_option linter.unusedSimpArgs false
set_option linter.unusedVariables false
open Go.ChangeShapes Go.WideShapes Go.ChangeAt Go.RowKit
open Go.Proofs.Ybulkbnbu.Fl

theorem ord_lt (a b : Nat) (h : a < b) (hb : b < 2 ^ 53) : FloatKind.f64.format.order (W a) (W b) = some .lt := by
  have := order_W a b (by omega) hb
  rw [Nat.compare_eq_lt.2 h] at this; exact this
theorem ord_gt (a b : Nat) (h : b < a) (hb : a < 2 ^ 53) : FloatKind.f64.format.order (W a) (W b) = some .gt := by
  have := order_W a b hb (by omega)
  rw [Nat.compare_eq_gt.2 h] at this; exact this
theorem ord_eq (a : Nat) (hb : a < 2 ^ 53) : FloatKind.f64.format.order (W a) (W a) = some .eq := by
  have := order_W a a hb hb
  rw [Nat.compare_eq_eq.2 rfl] at this; exact this

/-- The block of a number. -/
def blk (n : Nat) : Code → Option Code
  | .block i c => if i = n then some c else blk n c
  | .seq a b => match blk n a with | some c => some c | none => blk n b
  | .cond _ a b => match blk n a with | some c => some c | none => blk n b
  | .loop c => blk n c
  | .scope c => blk n c
  | _ => none

/-- The sweep. -/
structure SM where
  p : Nat
  wo : Nat
  wi : Nat
  la : Nat
  tk : Bool
  xs : List Nat
  us : List Nat
  sw : List Nat
/-- One step of s that lies ahead of c. -/
def inA (X U : Nat → Nat) (st : SM) : SM :=
  if st.tk = true then
    if st.wi ≤ U st.p then
      if st.la < U st.p then ⟨st.p + 1, U st.p, st.wi, U st.p, false, st.xs ++ [X st.p], st.us ++ [U st.p], st.sw ++ [X st.p]⟩ else ⟨st.p + 1, U st.p, st.wi, st.la, false, st.xs, st.us, st.sw ++ [X st.p]⟩
    else ⟨st.p + 1, U st.p, st.wi, st.la, true, st.xs, st.us, st.sw⟩
  else if st.la < U st.p then ⟨st.p + 1, U st.p, st.wi, U st.p, false, st.xs ++ [X st.p], st.us ++ [U st.p], st.sw⟩ else ⟨st.p + 1, U st.p, st.wi, st.la, false, st.xs, st.us, st.sw⟩
def inner (X U : Nat → Nat) (L c : Nat) : Nat → SM → SM
  | 0, st => st
  | k + 1, st => if st.p < L ∧ X st.p < c then inner X U L c k (inA X U st) else st
/-- The round behind the inner loop. -/
def hitB (X U : Nat → Nat) (L c : Nat) (st : SM) : SM := if st.p < L ∧ X st.p = c then { st with p := st.p + 1, wo := U st.p } else st
def outB (c wi : Nat) (st : SM) : SM :=
  let tk := decide (st.wo < wi)
  let sw := if tk = st.tk then st.sw else st.sw ++ [c]
  if st.la < max wi st.wo then ⟨st.p, st.wo, wi, max wi st.wo, tk, st.xs ++ [c], st.us ++ [max wi st.wo], sw⟩ else ⟨st.p, st.wo, wi, st.la, tk, st.xs, st.us, sw⟩
def outer (X U : Nat → Nat) (L s v q : Nat) (st : SM) : SM := outB (X q + s) (U q + v) (hitB X U L (X q + s) (inner X U L (X q + s) (L - st.p) st))
def sweep (X U : Nat → Nat) (L s v : Nat) : Nat → SM → SM
  | 0, st => st
  | q + 1, st => outer X U L s v q (sweep X U L s v q st)

/-- Which blocks differ. -/
structure DD (b6 hb gs gv gw sz vz : Nat) : Prop where
  w1 : gs ≠ gw
  w2 : hb ≠ gw
  w3 : gv ≠ gw
  s1 : ¬ (sz = hb ∨ sz = gs ∨ sz = gv)
  s2 : sz ≠ gw
  v1 : ¬ (vz = hb ∨ vz = gs ∨ vz = gv)
  v2 : vz ≠ gw
  i1 : ¬ (b6 = hb ∨ b6 = gs ∨ b6 = gv)
  i2 : b6 ≠ gw
/-- What stands of memory. -/
structure SD (B : Nat) (w : World) (b6 hb gs gv gw sz vz cs cv cw L s v : Nat) (X U : Nat → Nat) (xs us sw : List Nat) : Prop where
  out : Out B w hb gs gv cs cv xs.length us.length xs us
  sw : w.ownsRow B 3 1 (.slice (some ⟨gw, 0, none⟩) sw.length cw) sw.length (ints sw)
  it0 : w.cell? ⟨b6, 0, none⟩ = some (.int .i64 (s : Int))
  it1 : w.cell? ⟨b6, 1, none⟩ = some (.float .f64 (W v))
  rx : ∀ j, j < L → w.cell? ⟨sz, j, none⟩ = some (.int .i64 (X j : Int))
  ru : ∀ j, j < L → w.cell? ⟨vz, j, none⟩ = some (.float .f64 (W (U j)))
section
variable {B : Nat} {w w' : World} {b6 hb gs gv gw sz vz cs cv cw L s v : Nat} {X U : Nat → Nat} {xs us sw xs' us' sw' : List Nat}
theorem SD.outs (h : SD B w b6 hb gs gv gw sz vz cs cv cw L s v X U xs us sw) (D : DD b6 hb gs gv gw sz vz) (ho : Out B w' hb gs gv cs cv xs'.length us'.length xs' us') (hk : Keeps (fun k => k = hb ∨ k = gs ∨ k = gv) w w') : SD B w' b6 hb gs gv gw sz vz cs cv cw L s v X U xs' us' sw := by
  have hl := ownsRow_lt h.sw gw rfl
  refine ⟨ho, ownsRow_of_block h.sw (fun g hg => ?_), hk.cell h.it0 D.i1, hk.cell h.it1 D.i1, fun j hj => hk.cell (h.rx j hj) D.s1, fun j hj => hk.cell (h.ru j hj) D.v1⟩
  simp [Value.ownBlock] at hg; subst hg
  refine hk.block _ hl ?_
  rintro (e | e | e)
  · exact D.w2 e.symm
  · exact D.w1 e.symm
  · exact D.w3 e.symm
theorem SD.alloc (h : SD B w b6 hb gs gv gw sz vz cs cv cw L s v X U xs us sw) (o : Obj) : SD B (w.alloc o) b6 hb gs gv gw sz vz cs cv cw L s v X U xs us sw := by
  have key : ∀ {a : Addr} {u : Value}, w.cell? a = some u → (w.alloc o).cell? a = some u := fun {a u} hc => by
    rw [World.cell?_of_block (w := w) (Below.heap_alloc _ _ _ (World.block_lt_of_cell? w _ hc))]; exact hc
  exact ⟨h.out.alloc o, h.sw.alloc o, key h.it0, key h.it1, fun j hj => key (h.rx j hj), fun j hj => key (h.ru j hj)⟩
theorem SD.push (h : SD B w b6 hb gs gv gw sz vz cs cv cw L s v X U xs us sw) (D : DD b6 hb gs gv gw sz vz) {c : Nat} (ho : w'.ownsRow B 3 1 (.slice (some ⟨gw, 0, none⟩) (sw.length + 1) cw) (sw.length + 1) (ints sw ++ [.int .i64 (c : Int)])) (hg : w.grownBy w' (some gw)) : SD B w' b6 hb gs gv gw sz vz cs cv cw L s v X U xs us (sw ++ [c]) := by
  obtain ⟨_, _, _, l1, l2, l3⟩ := h.out.ne
  have key : ∀ {a : Addr} {u : Value}, w.cell? a = some u → a.block ≠ gw → w'.cell? a = some u := fun {a u} hc hn => by
    rw [World.cell?_of_block (w := w) (hg.block _ (World.block_lt_of_cell? w _ hc) (by simpa using hn))]; exact hc
  refine ⟨h.out.move (hg.block _ l1 (by simpa using D.w2)) (hg.block _ l2 (by simpa using D.w1)) (hg.block _ l3 (by simpa using D.w3)), ?_, key h.it0 D.i2, key h.it1 D.i2, fun j hj => key (h.rx j hj) D.s2, fun j hj => key (h.ru j hj) D.v2⟩
  rw [ints_append, List.length_append]; exact ho
end
/-- Blocks that the sweep writes. -/
def ch (hb gs gv gw k : Nat) : Prop := k = hb ∨ k = gs ∨ k = gv ∨ k = gw
theorem ch_of {hb gs gv gw k : Nat} (h : k = hb ∨ k = gs ∨ k = gv) : ch hb gs gv gw k := by unfold ch; omega
set_option maxRecDepth 100000 in
theorem lit285 (b : Act) (g : Nat → Value) (hg : ∀ t, b.tmps[t]?.getD undef = g t) (hN : b.tmps.size = 285) (hd : b.defers = []) : b = { tmps := (g 0 :: g 1 :: g 2 :: g 3 :: g 4 :: g 5 :: g 6 :: g 7 :: g 8 :: g 9 :: g 10 :: g 11 :: g 12 :: g 13 :: g 14 :: g 15 :: g 16 :: g 17 :: g 18 :: g 19 :: g 20 :: g 21 :: g 22 :: g 23 :: g 24 :: g 25 :: g 26 :: g 27 :: g 28 :: g 29 :: g 30 :: g 31 :: g 32 :: g 33 :: g 34 :: g 35 :: g 36 :: g 37 :: g 38 :: g 39 :: g 40 :: g 41 :: g 42 :: g 43 :: g 44 :: g 45 :: g 46 :: g 47 :: g 48 :: g 49 :: g 50 :: g 51 :: g 52 :: g 53 :: g 54 :: g 55 :: g 56 :: g 57 :: g 58 :: g 59 :: g 60 :: g 61 :: g 62 :: g 63 :: g 64 :: g 65 :: g 66 :: g 67 :: g 68 :: g 69 :: g 70 :: g 71 :: g 72 :: g 73 :: g 74 :: g 75 :: g 76 :: g 77 :: g 78 :: g 79 :: g 80 :: g 81 :: g 82 :: g 83 :: g 84 :: g 85 :: g 86 :: g 87 :: g 88 :: g 89 :: g 90 :: g 91 :: g 92 :: g 93 :: g 94 :: g 95 :: g 96 :: g 97 :: g 98 :: g 99 :: g 100 :: g 101 :: g 102 :: g 103 :: g 104 :: g 105 :: g 106 :: g 107 :: g 108 :: g 109 :: g 110 :: g 111 :: g 112 :: g 113 :: g 114 :: g 115 :: g 116 :: g 117 :: g 118 :: g 119 :: g 120 :: g 121 :: g 122 :: g 123 :: g 124 :: g 125 :: g 126 :: g 127 :: g 128 :: g 129 :: g 130 :: g 131 :: g 132 :: g 133 :: g 134 :: g 135 :: g 136 :: g 137 :: g 138 :: g 139 :: g 140 :: g 141 :: g 142 :: g 143 :: g 144 :: g 145 :: g 146 :: g 147 :: g 148 :: g 149 :: g 150 :: g 151 :: g 152 :: g 153 :: g 154 :: g 155 :: g 156 :: g 157 :: g 158 :: g 159 :: g 160 :: g 161 :: g 162 :: g 163 :: g 164 :: g 165 :: g 166 :: g 167 :: g 168 :: g 169 :: g 170 :: g 171 :: g 172 :: g 173 :: g 174 :: g 175 :: g 176 :: g 177 :: g 178 :: g 179 :: g 180 :: g 181 :: g 182 :: g 183 :: g 184 :: g 185 :: g 186 :: g 187 :: g 188 :: g 189 :: g 190 :: g 191 :: g 192 :: g 193 :: g 194 :: g 195 :: g 196 :: g 197 :: g 198 :: g 199 :: g 200 :: g 201 :: g 202 :: g 203 :: g 204 :: g 205 :: g 206 :: g 207 :: g 208 :: g 209 :: g 210 :: g 211 :: g 212 :: g 213 :: g 214 :: g 215 :: g 216 :: g 217 :: g 218 :: g 219 :: g 220 :: g 221 :: g 222 :: g 223 :: g 224 :: g 225 :: g 226 :: g 227 :: g 228 :: g 229 :: g 230 :: g 231 :: g 232 :: g 233 :: g 234 :: g 235 :: g 236 :: g 237 :: g 238 :: g 239 :: g 240 :: g 241 :: g 242 :: g 243 :: g 244 :: g 245 :: g 246 :: g 247 :: g 248 :: g 249 :: g 250 :: g 251 :: g 252 :: g 253 :: g 254 :: g 255 :: g 256 :: g 257 :: g 258 :: g 259 :: g 260 :: g 261 :: g 262 :: g 263 :: g 264 :: g 265 :: g 266 :: g 267 :: g 268 :: g 269 :: g 270 :: g 271 :: g 272 :: g 273 :: g 274 :: g 275 :: g 276 :: g 277 :: g 278 :: g 279 :: g 280 :: g 281 :: g 282 :: g 283 :: g 284 :: []).toArray, defers := [] } := by
  obtain ⟨tm, df⟩ := b
  obtain rfl : df = [] := hd
  obtain rfl : (fun t => tm[t]?.getD undef) = g := funext hg
  exact congrArg (fun x => Act.mk x []) (tmps_eq hN)
end Go.Proofs.Ybulkbnbu.Kn
