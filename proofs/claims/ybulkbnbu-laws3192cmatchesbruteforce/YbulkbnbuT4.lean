/-
  Best (function 7), its end: the way back through the curve.
-/
import Derived.Test.YbulkbnbuCur
import Derived.Test.YbulkbnbuCon
import Derived.Test.YbulkbnbuC32
namespace Go.Proofs.Ybulkbnbu.Kn
set_option linter.unusedSimpArgs false
set_option linter.unusedVariables false
open Go.ChangeShapes Go.WideShapes Go.ChangeAt Go.RowKit
open Go.Proofs.Ybulkbnbu.Fl Go.Proofs.Ybulkbnbu.Pl Go.Sort
attribute [local go_sem] run_store_float

set_option maxRecDepth 100000 in
theorem lit222 (b : Act) (g : Nat → Value) (hg : ∀ t, b.tmps[t]?.getD undef = g t) (hN : b.tmps.size = 222) (hd : b.defers = []) : b = { tmps := (g 0 :: g 1 :: g 2 :: g 3 :: g 4 :: g 5 :: g 6 :: g 7 :: g 8 :: g 9 :: g 10 :: g 11 :: g 12 :: g 13 :: g 14 :: g 15 :: g 16 :: g 17 :: g 18 :: g 19 :: g 20 :: g 21 :: g 22 :: g 23 :: g 24 :: g 25 :: g 26 :: g 27 :: g 28 :: g 29 :: g 30 :: g 31 :: g 32 :: g 33 :: g 34 :: g 35 :: g 36 :: g 37 :: g 38 :: g 39 :: g 40 :: g 41 :: g 42 :: g 43 :: g 44 :: g 45 :: g 46 :: g 47 :: g 48 :: g 49 :: g 50 :: g 51 :: g 52 :: g 53 :: g 54 :: g 55 :: g 56 :: g 57 :: g 58 :: g 59 :: g 60 :: g 61 :: g 62 :: g 63 :: g 64 :: g 65 :: g 66 :: g 67 :: g 68 :: g 69 :: g 70 :: g 71 :: g 72 :: g 73 :: g 74 :: g 75 :: g 76 :: g 77 :: g 78 :: g 79 :: g 80 :: g 81 :: g 82 :: g 83 :: g 84 :: g 85 :: g 86 :: g 87 :: g 88 :: g 89 :: g 90 :: g 91 :: g 92 :: g 93 :: g 94 :: g 95 :: g 96 :: g 97 :: g 98 :: g 99 :: g 100 :: g 101 :: g 102 :: g 103 :: g 104 :: g 105 :: g 106 :: g 107 :: g 108 :: g 109 :: g 110 :: g 111 :: g 112 :: g 113 :: g 114 :: g 115 :: g 116 :: g 117 :: g 118 :: g 119 :: g 120 :: g 121 :: g 122 :: g 123 :: g 124 :: g 125 :: g 126 :: g 127 :: g 128 :: g 129 :: g 130 :: g 131 :: g 132 :: g 133 :: g 134 :: g 135 :: g 136 :: g 137 :: g 138 :: g 139 :: g 140 :: g 141 :: g 142 :: g 143 :: g 144 :: g 145 :: g 146 :: g 147 :: g 148 :: g 149 :: g 150 :: g 151 :: g 152 :: g 153 :: g 154 :: g 155 :: g 156 :: g 157 :: g 158 :: g 159 :: g 160 :: g 161 :: g 162 :: g 163 :: g 164 :: g 165 :: g 166 :: g 167 :: g 168 :: g 169 :: g 170 :: g 171 :: g 172 :: g 173 :: g 174 :: g 175 :: g 176 :: g 177 :: g 178 :: g 179 :: g 180 :: g 181 :: g 182 :: g 183 :: g 184 :: g 185 :: g 186 :: g 187 :: g 188 :: g 189 :: g 190 :: g 191 :: g 192 :: g 193 :: g 194 :: g 195 :: g 196 :: g 197 :: g 198 :: g 199 :: g 200 :: g 201 :: g 202 :: g 203 :: g 204 :: g 205 :: g 206 :: g 207 :: g 208 :: g 209 :: g 210 :: g 211 :: g 212 :: g 213 :: g 214 :: g 215 :: g 216 :: g 217 :: g 218 :: g 219 :: g 220 :: g 221 :: []).toArray, defers := [] } := by
  obtain ⟨tm, df⟩ := b
  obtain rfl : df = [] := hd
  obtain rfl : (fun t => tm[t]?.getD undef) = g := funext hg
  exact congrArg (fun x => Act.mk x []) (tmps_eq hN)

/-- What Best hands back. -/
def Bested (got : Nat) (C : List Nat) (H : Nat) (e : Ending) (w' : World) : Prop := ∃ p c, e = .returned (.tuple #[.float .f64 (W got), .slice p C.length c]) ∧ Lst w' H p C
theorem Lst.keep {w w' : World} {H : Nat} {p : Option Addr} {K : List Nat} {D : Nat → Prop} (h : Lst w H p K) (hk : Keeps D w w') (hd : ∀ g, H ≤ g → g < w.heap.size → ¬ D g) : Lst w' H p K := fun hK => by
  obtain ⟨g, h1, h2, h3, h4⟩ := h hK
  exact ⟨g, h1, h2, by have := hk.size; omega, fun j y hj => hk.cell (h4 j y hj) (hd g h2 h3)⟩

set_option maxRecDepth 100000 in
set_option maxHeartbeats 8000000 in
theorem t4 {Rr : Ending → World → Prop} (B cb ib n c cap u kc H : Nat) (p : Option Addr) (K : List Nat) (s v : Nat → Nat) (f : Act) (w : World) (hL : Lst w H p K) (hI : Itm w ib n s v) (hC : CV B cb (cap / u) 0 K.length (fun j => s (K.getD j 0) / u) (fun j => v (K.getD j 0)) w) (hKn : ∀ x ∈ K, x < n) (hlen : K.length ≤ 12) (hn : n ≤ 12) (hs : ∀ i, 1 ≤ s i ∧ s i ≤ 7) (hu : 0 < u) (hcap : cap ≤ 47)
    (hsz : f.tmps.size = 222) (hds : f.defers = []) (e0 : f.tmps[0]?.getD undef = .slice (some ⟨ib, 0, none⟩) n c) (e1 : f.tmps[1]?.getD undef = .int .i64 (cap : Int)) (e12 : f.tmps[12]?.getD undef = .slice p K.length kc) (e13 : f.tmps[13]?.getD undef = .int .i64 (u : Int)) (e24 : f.tmps[24]?.getD undef = .pointer (some ⟨cb, 0, none⟩))
    (hR : ∀ e w', Bested (F (fun j => s (K.getD j 0) / u) (fun j => v (K.getD j 0)) K.length (cap / u)) ((R (fun j => s (K.getD j 0) / u) (fun j => v (K.getD j 0)) K.length (cap / u)).map fun j => K.getD j 0) w.heap.size e w' → Keeps (fun _ => False) w w' → Rr e w') :
    Code.wp Yba.prog ((Yba.f7.body.bind (from_ 53)).getD .skip) (bodyPost Yba.prog Yba.f7 Rr) f w := by
  conv => arg 2; whnf
  obtain ⟨g, hg⟩ : ∃ g : Nat → Value, ∀ t, f.tmps[t]?.getD undef = g t := ⟨_, fun _ => rfl⟩
  rw [hg] at e0 e1 e12 e13 e24
  rw [lit222 f g hg hsz hds, e0, e1, e12, e13, e24]
  clear hg hsz hds e0 e1 e12 e13 e24

  have hdv : Int.tdiv (cap : Int) (u : Int) = ((cap / u : Nat) : Int) := by rw [Int.tdiv_eq_ediv_of_nonneg (by omega)]; simp
  have hdb : cap / u ≤ 47 := Nat.le_trans (Nat.div_le_self _ _) hcap
  have hu0 : ¬ (u : Int) = 0 := by omega
  generalize hsf : (fun j => s (K.getD j 0) / u) = sf at *
  generalize hvf : (fun j => v (K.getD j 0)) = vf at *
  generalize hroom : cap / u = room at *
  obtain ⟨i0, hi0, hz0, hz1, hz2⟩ := info_parts info3
  have HR : Hid (_) := hR
  have H0 : Hid (_) := And.intro hL (And.intro hI (And.intro hC (And.intro hKn (And.intro hs (And.intro hsf hvf)))))
  clear hR hL hI hC hKn hs hsf hvf
  go_wp2_with fail
  go_loopw [29, 30, 31] (fun kv cv iv wr => ∃ (j cc : Nat) (zs : List Nat), j ≤ K.length ∧ iv = .int .i64 ((j : Int) - 1) ∧ cv = .int .i64 (cc : Int) ∧ cc ≤ room ∧ (R sf vf K.length room).map (fun j => K.getD j 0) = (R sf vf j cc).map (fun j => K.getD j 0) ++ zs.reverse ∧ zs.length + j ≤ K.length ∧ wr.ownsRow w.heap.size 3 1 kv zs.length (ints zs) ∧ Keeps (fun _ => False) w wr) (fun _ _ iv _ => (intOf iv + 1).toNat)
  case atStart => exact ⟨K.length, room, [], Nat.le_refl _, by first | rfl | go_num, rfl, Nat.le_refl _, by simp, by simp, World.ownsRow_nil _ _ _ _, Keeps.refl _ _⟩
  case round =>
    obtain ⟨j, cc, zs, hj, rfl, rfl, hcc, hRz, hzl, how, hkp⟩ := hrel
    obtain ⟨hL, hI, hC, hKn, hs, hsf, hvf⟩ := H0.out
    cases j with
    | zero =>
      have hC4 := hC.keep (hkp.mono (fun _ _ h => h.elim))
      have hRz' : (R sf vf K.length room).map (fun j => K.getD j 0) = zs.reverse := by rw [hRz]; simp [R]
      rw [hRz'] at HR
      obtain ⟨a, cp, hkv, _⟩ := own_shape how
      subst hkv
      have hrl : zs.reverse.length = zs.length := List.length_reverse
      have HK : Hid (_) := hkp
      by_cases h0 : zs = []
      · subst h0
        have hS := Yba.slices_Reverse_int_empty a cp wr
        have hTp := top_any B cb room 0 K.length sf vf wr hC4 hdb
        have HS : Hid (_) := And.intro hS hTp
        clear hS hTp how hRz hRz' hL hI hC hKn hs hC4 hkp
        go_wp2_with (first | (go_at_call 21; refine Calls.mono HS.out.1 ?_; rintro e w6 ⟨rfl, rfl⟩) | (go_at_call 22; refine Calls.mono HS.out.2 ?_; rintro e w7 ⟨rfl, hk7⟩; have H7 : Hid (_) := hk7; clear hk7))
        refine HR.out _ _ ⟨a, cp, rfl, fun h => absurd rfl h⟩ (HK.out.trans H7.out (fun _ _ h => h))
      · rcases how.2 with ⟨hv, h0'⟩ | ⟨g, cap', cur, hv, hg, hh, hnn, hc, hs', ht⟩
        · exact absurd (List.eq_nil_of_length_eq_zero h0') h0
        · simp only [Value.slice.injEq] at hv
          obtain ⟨rfl, _, rfl⟩ := hv
          have hS := rev21 w.heap.size g cp zs wr how (by omega)
          have hgb := (ownsRow_tag how g rfl).1
          have hgl := ownsRow_lt how g rfl
          have hTp := fun w6 (hk : Keeps (fun _ => False) w w6) => top_any B cb room 0 K.length sf vf w6 (hC.keep (hk.mono (fun _ _ h => h.elim))) hdb
          have HS : Hid (_) := And.intro hS hTp
          clear hS hTp how hRz hRz' hL hI hC hKn hs hC4 hkp ht hs' hh
          go_wp2_with (first | (go_at_call 21; refine Calls.mono HS.out.1 ?_; rintro e w6 ⟨rfl, hO6, hk6⟩; have H6 : Hid (_) := And.intro hO6 (HK.out.trans hk6 (fun k hk h => absurd h (by omega))); have HL6 : Hid (_) := hk6.size; clear hO6 hk6) | (go_at_call 22; refine Calls.mono (HS.out.2 _ H6.out.2) ?_; rintro e w7 ⟨rfl, hk7⟩; have H7 : Hid (_) := hk7; clear hk7))
          refine HR.out _ _ ⟨_, cp, by rw [hrl]; rfl, fun _ => ⟨g, rfl, hgb, by have := HL6.out; have := H7.out.size; omega, fun j y hj => H7.out.cell (H6.out.1 j y hj) (fun h => h)⟩⟩ (H6.out.2.trans H7.out (fun _ _ h => h))
    | succ k =>
      have e1 : (((k + 1 : Nat) : Int) - 1) = (k : Int) := by omega
      rw [e1]
      have hT := takes_any B cb room 0 K.length k cc sf vf wr (hC.keep (hkp.mono (fun _ _ h => h.elim))) (by omega) hcc hdb (by omega)
      have b1 : (0 : Int) ≤ (k : Int) := by omega
      have b2 : (k : Int) < (K.length : Int) := by omega
      obtain ⟨g, rfl, hgH, hgl, hgc⟩ := hL (by intro e; rw [e] at hj; simp at hj)
      have hkx : K[k]? = some (K.getD k 0) := by rw [List.getD_eq_getElem?_getD, List.getElem?_eq_getElem (by omega)]; rfl
      have cK := hgc k _ hkx
      have hxn : K.getD k 0 < n := hKn _ (List.mem_of_getElem? hkx)
      have cI := (hI (K.getD k 0) hxn).1
      have hsk : sf k = s (K.getD k 0) / u := by rw [← hsf]
      have hsb := hs (K.getD k 0)
      generalize hx : K.getD k 0 = x at *
      have HX : Hid (_) := hx
      clear hx
      have HT : Hid (_) := hT
      have HW : Hid (_) := And.intro how hkp
      have HZ : Hid (_) := And.intro hRz (And.intro hsk hsb)
      cases hTv : T sf vf k cc with
      | false =>
        rw [hTv] at HT
        clear hT how hkp hRz hL hI hC hKn hs hgc hkx hsk
        go_wp2_with (go_at_call 20; refine Calls.mono HT.out ?_; rintro e w2 ⟨rfl, hk2⟩; have HK2 : Hid (_) := hk2; clear hk2)
        go_roundw
        case rel => exact ⟨k, cc, zs, by omega, by first | rfl | go_num, rfl, hcc, by rw [HZ.out.1]; simp [R, hTv], by omega, ownsRow_of_block HW.out.1 (fun g hg => HK2.out.block g (ownsRow_lt HW.out.1 g hg) (fun h => h)), HW.out.2.trans HK2.out (fun _ _ h => h)⟩
        case measure => simp [intOf]; try omega
      | true =>
        rw [hTv] at HT
        have hcl : s x / u ≤ cc := by
          have hd := of_decide_eq_true (show decide (sf k ≤ cc ∧ F sf vf k cc < F sf vf k (cc - sf k) + vf k) = true from hTv)
          rw [← hsk]; exact hd.1
        have cKr := hkp.cell cK (fun h => h)
        have hdx : Int.tdiv (s x : Int) (u : Int) = ((s x / u : Nat) : Int) := by rw [Int.tdiv_eq_ediv_of_nonneg (by omega)]; simp
        have hdl : s x / u ≤ 7 := Nat.le_trans (Nat.div_le_self _ _) hsb.2
        clear hT how hkp hRz hL hI hC hKn hs hgc hkx hsk
        generalize hdd : s x / u = dd at *
        have HD : Hid (_) := hdd
        clear hdd
        generalize s x = sx at *
        go_wp2_with (first | (go_at_call 20; refine Calls.mono HT.out ?_; rintro e w2 ⟨rfl, hk2⟩; have cK2 := hk2.cell cKr (fun h => h); have HK2 : Hid (_) := hk2; clear hk2) | (at_builtin; (refine wpList_append_lies _ rfl (.tmp 198) (.tmp 203) 29 rfl w.heap.size 3 i0 _ 1 8 Yba.underlying29 hi0 hz0 hz1 hz2 rfl (by omega) _ _ (ints zs) rfl (World.ownsRow.alloc (ownsRow_of_block HW.out.1 (fun g hg => HK2.out.block g (ownsRow_lt HW.out.1 g hg) (fun h => h))) _) ⟨w2.heap.size, 0, none⟩ 1 1 (ints [x]) rfl rfl (World.news_of_block (cs := #[.int .i64 (x : Int)]) (heap_alloc_new w2 _)) (ints_one _) (by omega) (by unfold maxLen; omega) (by omega) (by have := HW.out.2.size; have := HK2.out.size; simp; omega) _ rfl ?_; intro g2 cap2 w5 ho5 hg5 hat5 hlt5; have hK5 : Keeps (fun _ => False) w w5 := Keeps.grown ((HW.out.2.trans HK2.out (fun _ _ h => h)).alloc _) hg5 (fun k hk hl => absurd (ownsRow_tag HW.out.1 k hk).1 (by omega)); have cK5 := hK5.cell cK (fun h => h); have cI5 := hK5.cell cI (fun h => h); have H5 : Hid (_) := And.intro ho5 hK5; clear ho5 hg5 hat5 hlt5 hK5)))
        go_roundw
        case rel =>
          have ho5 := H5.out.1
          rw [← ints_append] at ho5
          refine ⟨k, cc - dd, zs ++ [x], by omega, by first | rfl | go_num, ?_, by omega, ?_, by simp; omega, ?_, H5.out.2⟩
          · first | rfl | go_num
          · rw [HZ.out.1]
            simp [R, hTv, HZ.out.2.1, HD.out]
            simpa using HX.out
          · simpa using ho5
        case measure => simp [intOf]; try omega
end Go.Proofs.Ybulkbnbu.Kn
