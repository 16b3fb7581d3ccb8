/-
  What a curve is while items are added to it: a staircase, then a table.
-/
import Derived.Test.YbulkbnbuC8
namespace Go.Proofs.Ybulkbnbu.Kn
set_option linter.unusedSimpArgs false
set_option linter.unusedVariables false
open Go.ChangeShapes Go.WideShapes Go.ChangeAt Go.RowKit
open Go.Proofs.Ybulkbnbu.Fl Go.Proofs.Ybulkbnbu.Pl

set_option maxRecDepth 100000 in
theorem lit191 (b : Act) (g : Nat → Value) (hg : ∀ t, b.tmps[t]?.getD undef = g t) (hN : b.tmps.size = 191) (hd : b.defers = []) : b = { tmps := (g 0 :: g 1 :: g 2 :: g 3 :: g 4 :: g 5 :: g 6 :: g 7 :: g 8 :: g 9 :: g 10 :: g 11 :: g 12 :: g 13 :: g 14 :: g 15 :: g 16 :: g 17 :: g 18 :: g 19 :: g 20 :: g 21 :: g 22 :: g 23 :: g 24 :: g 25 :: g 26 :: g 27 :: g 28 :: g 29 :: g 30 :: g 31 :: g 32 :: g 33 :: g 34 :: g 35 :: g 36 :: g 37 :: g 38 :: g 39 :: g 40 :: g 41 :: g 42 :: g 43 :: g 44 :: g 45 :: g 46 :: g 47 :: g 48 :: g 49 :: g 50 :: g 51 :: g 52 :: g 53 :: g 54 :: g 55 :: g 56 :: g 57 :: g 58 :: g 59 :: g 60 :: g 61 :: g 62 :: g 63 :: g 64 :: g 65 :: g 66 :: g 67 :: g 68 :: g 69 :: g 70 :: g 71 :: g 72 :: g 73 :: g 74 :: g 75 :: g 76 :: g 77 :: g 78 :: g 79 :: g 80 :: g 81 :: g 82 :: g 83 :: g 84 :: g 85 :: g 86 :: g 87 :: g 88 :: g 89 :: g 90 :: g 91 :: g 92 :: g 93 :: g 94 :: g 95 :: g 96 :: g 97 :: g 98 :: g 99 :: g 100 :: g 101 :: g 102 :: g 103 :: g 104 :: g 105 :: g 106 :: g 107 :: g 108 :: g 109 :: g 110 :: g 111 :: g 112 :: g 113 :: g 114 :: g 115 :: g 116 :: g 117 :: g 118 :: g 119 :: g 120 :: g 121 :: g 122 :: g 123 :: g 124 :: g 125 :: g 126 :: g 127 :: g 128 :: g 129 :: g 130 :: g 131 :: g 132 :: g 133 :: g 134 :: g 135 :: g 136 :: g 137 :: g 138 :: g 139 :: g 140 :: g 141 :: g 142 :: g 143 :: g 144 :: g 145 :: g 146 :: g 147 :: g 148 :: g 149 :: g 150 :: g 151 :: g 152 :: g 153 :: g 154 :: g 155 :: g 156 :: g 157 :: g 158 :: g 159 :: g 160 :: g 161 :: g 162 :: g 163 :: g 164 :: g 165 :: g 166 :: g 167 :: g 168 :: g 169 :: g 170 :: g 171 :: g 172 :: g 173 :: g 174 :: g 175 :: g 176 :: g 177 :: g 178 :: g 179 :: g 180 :: g 181 :: g 182 :: g 183 :: g 184 :: g 185 :: g 186 :: g 187 :: g 188 :: g 189 :: g 190 :: []).toArray, defers := [] } := by
  obtain ⟨tm, df⟩ := b
  obtain rfl : df = [] := hd
  obtain rfl : (fun t => tm[t]?.getD undef) = g := funext hg
  exact congrArg (fun x => Act.mk x []) (tmps_eq hN)

/-- What the switches tell. -/
structure Tk (sw fr : List Nat) (room m : Nat) (sf vf : Nat → Nat) : Prop where
  len : fr.length = m + 1
  last : fr.getD m 0 = sw.length
  seg : ∀ k, k < m → fr.getD k 0 ≤ fr.getD (k + 1) 0 ∧ fr.getD (k + 1) 0 ≤ sw.length ∧ Sw ((sw.drop (fr.getD k 0)).take (fr.getD (k + 1) 0 - fr.getD k 0)) room (T sf vf k)
  lim : sw.length ≤ 3 * m
theorem Tk.snoc {sw fr seg : List Nat} {room m : Nat} {sf vf : Nat → Nat} (h : Tk sw fr room m sf vf) (hs : Sw seg room (T sf vf m)) (hl : seg.length ≤ 3) : Tk (sw ++ seg) (fr ++ [(sw ++ seg).length]) room (m + 1) sf vf := by
  have hlen := h.len
  have g1 : ∀ k, k ≤ m → (fr ++ [(sw ++ seg).length]).getD k 0 = fr.getD k 0 := fun k hk => by
    simp only [List.getD_eq_getElem?_getD]
    rw [List.getElem?_append_left (by omega)]
  have g2 : (fr ++ [(sw ++ seg).length]).getD (m + 1) 0 = (sw ++ seg).length := by
    simp only [List.getD_eq_getElem?_getD]
    rw [List.getElem?_append_right (by omega)]
    simp [hlen]
  refine ⟨by simp [hlen], g2, fun k hk => ?_, by have := h.lim; simp; omega⟩
  by_cases e : k = m
  · subst e
    rw [g1 k (Nat.le_refl _), g2, h.last]
    refine ⟨by simp, by simp, ?_⟩
    rw [List.drop_left, show (sw ++ seg).length - sw.length = seg.length by simp, List.take_length]
    exact hs
  · obtain ⟨h1, h2, h3⟩ := h.seg k (by omega)
    rw [g1 k (by omega), g1 (k + 1) (by omega)]
    refine ⟨h1, Nat.le_trans h2 (by simp), ?_⟩
    rw [List.drop_append_of_le_length (by omega), List.take_append_of_le_length (by rw [List.length_drop]; omega)]
    exact h3
theorem Tk.zero (room : Nat) (sf vf : Nat → Nat) : Tk [] [0] room 0 sf vf := ⟨rfl, rfl, fun k hk => absurd hk (by omega), by simp⟩

structure Sd where
  sz : Nat
  vz : Nat
  cS : Nat
  cV : Nat
  nS : Nat
  cdS : Nat
  nV : Nat
  cdV : Nat
  cW : Nat
  gf : Nat
  cF : Nat
  aS : Option Addr
  aV : Option Addr
  aW : Option Addr
  yS : List Value
  yV : List Value
  xs : List Nat
  us : List Nat
  sw : List Nat
  fr : List Nat

/-- The curve is a staircase. -/
structure CS (B cb room left m : Nat) (sf vf : Nat → Nat) (d : Sd) (w : World) : Prop where
  row : w.rowIs cb 59 11 (cvF room left (.slice (some ⟨d.sz, 0, none⟩) d.xs.length d.cS) (.slice (some ⟨d.vz, 0, none⟩) d.xs.length d.cV) (.slice d.aS d.nS d.cdS) (.slice d.aV d.nV d.cdV) (.slice d.aW d.sw.length d.cW) (.slice (some ⟨d.gf, 0, none⟩) (m + 1) d.cF) (.slice none 0 0) (.slice none 0 0))
  oX : w.ownsRow B 3 1 (.slice (some ⟨d.sz, 0, none⟩) d.xs.length d.cS) d.xs.length (ints d.xs)
  oU : w.ownsRow B 26 1 (.slice (some ⟨d.vz, 0, none⟩) d.xs.length d.cV) d.xs.length (flts d.us)
  oS : w.ownsRow B 3 1 (.slice d.aS d.nS d.cdS) d.nS d.yS
  oV : w.ownsRow B 26 1 (.slice d.aV d.nV d.cdV) d.nV d.yV
  oW : w.ownsRow B 3 1 (.slice d.aW d.sw.length d.cW) d.sw.length (ints d.sw)
  oF : w.ownsRow B 3 1 (.slice (some ⟨d.gf, 0, none⟩) (m + 1) d.cF) (m + 1) (ints d.fr)
  rep : Rep d.xs d.us room (F sf vf m)
  md : Md d.xs d.us
  tk : Tk d.sw d.fr room m sf vf
  d1 : d.aS ≠ some ⟨d.sz, 0, none⟩
  d2 : d.aW ≠ some ⟨d.sz, 0, none⟩
  d3 : ∀ g, d.aS = some ⟨g, 0, none⟩ → d.aW ≠ some ⟨g, 0, none⟩
  d4 : d.aV ≠ some ⟨d.vz, 0, none⟩
  d5 : d.gf ≠ d.sz
  d6 : d.aS ≠ some ⟨d.gf, 0, none⟩
  d7 : d.aW ≠ some ⟨d.gf, 0, none⟩
  hcb : B ≤ cb
  hB : B ≤ w.heap.size

theorem slice_lt {w : World} {B e n c : Nat} {a : Option Addr} {ys : List Value} (h : w.ownsRow B e 1 (.slice a n c) n ys) (g : Nat) (ha : a = some ⟨g, 0, none⟩) : B ≤ g ∧ g < w.heap.size := by
  subst ha
  exact ⟨(ownsRow_tag h g rfl).1, ownsRow_lt h g rfl⟩
theorem own_of {w w' : World} {B e n : Nat} {v : Value} {ys : List Value} (h : w.ownsRow B e 1 v n ys) (hk : ∀ k, k < w.heap.size → w'.heap[k]? = w.heap[k]?) : w'.ownsRow B e 1 v n ys := ownsRow_of_block h (fun g hg => hk g (ownsRow_lt h g hg))

theorem CS.move {B cb room left m : Nat} {sf vf : Nat → Nat} {d : Sd} {w w' : World} (h : CS B cb room left m sf vf d w) (hs : w.heap.size ≤ w'.heap.size) (hk : ∀ k, k < w.heap.size → w'.heap[k]? = w.heap[k]?) : CS B cb room left m sf vf d w' :=
  ⟨h.row.of_block (hk cb h.row.lt), own_of h.oX hk, own_of h.oU hk, own_of h.oS hk, own_of h.oV hk, own_of h.oW hk, own_of h.oF hk, h.rep, h.md, h.tk, h.d1, h.d2, h.d3, h.d4, h.d5, h.d6, h.d7, h.hcb, by have := h.hB; omega⟩
theorem CS.keep {B cb room left m : Nat} {sf vf : Nat → Nat} {d : Sd} {w w' : World} (h : CS B cb room left m sf vf d w) (hk : Keeps (fun _ => False) w w') : CS B cb room left m sf vf d w' := h.move hk.size (fun k hl => hk.block k hl (fun h => h))

structure Td where
  gt : Nat
  gk : Nat
  ck : Nat
  m0 : Nat
  cW : Nat
  gf : Nat
  cF : Nat
  aW : Option Addr
  sw : List Nat
  fr : List Nat
  tw : Nat → Nat
  x : Value
  y : Value
  s : Value
  v : Value

/-- The curve is a table. -/
structure CT (B cb room left m : Nat) (sf vf : Nat → Nat) (d : Td) (w : World) : Prop where
  row : w.rowIs cb 59 11 (cvF room left d.x d.y d.s d.v (.slice d.aW d.sw.length d.cW) (.slice (some ⟨d.gf, 0, none⟩) (d.m0 + 1) d.cF) (.slice (some ⟨d.gt, 0, none⟩) (room + 1) (room + 1)) (.slice (some ⟨d.gk, 0, none⟩) (m - d.m0) d.ck))
  oW : w.ownsRow B 3 1 (.slice d.aW d.sw.length d.cW) d.sw.length (ints d.sw)
  oF : w.ownsRow B 3 1 (.slice (some ⟨d.gf, 0, none⟩) (d.m0 + 1) d.cF) (d.m0 + 1) (ints d.fr)
  tb : w.rowIs d.gt 26 (room + 1) (fun c => .float .f64 (W (F sf vf m c)))
  tn : w.rowIs d.gk 63 d.ck (fun j => .int .u64 ((d.tw j : Nat) : Int))
  tk : Tk d.sw d.fr room d.m0 sf vf
  bits : ∀ j, j < m - d.m0 → ∀ c, c ≤ room → (d.tw j).testBit c = T sf vf (d.m0 + j) c
  zero : ∀ j, m - d.m0 ≤ j → d.tw j = 0
  lim : ∀ j, d.tw j < 2 ^ 64
  ck : d.ck = left + (m - d.m0)
  le : d.m0 ≤ m
  hcb : B ≤ cb
  hgt : B ≤ d.gt
  hgk : B ≤ d.gk
  hB : B ≤ w.heap.size
theorem CT.move {B cb room left m : Nat} {sf vf : Nat → Nat} {d : Td} {w w' : World} (h : CT B cb room left m sf vf d w) (hs : w.heap.size ≤ w'.heap.size) (hk : ∀ k, k < w.heap.size → w'.heap[k]? = w.heap[k]?) : CT B cb room left m sf vf d w' :=
  ⟨h.row.of_block (hk cb h.row.lt), own_of h.oW hk, own_of h.oF hk, h.tb.of_block (hk _ h.tb.lt), h.tn.of_block (hk _ h.tn.lt), h.tk, h.bits, h.zero, h.lim, h.ck, h.le, h.hcb, h.hgt, h.hgk, by have := h.hB; omega⟩
theorem CT.keep {B cb room left m : Nat} {sf vf : Nat → Nat} {d : Td} {w w' : World} (h : CT B cb room left m sf vf d w) (hk : Keeps (fun _ => False) w w') : CT B cb room left m sf vf d w' := h.move hk.size (fun k hl => hk.block k hl (fun h => h))
end Go.Proofs.Ybulkbnbu.Kn
