/-
  'propagate' (function 12): the loops over one word's bits.
-/
import Derived.Test.YbulkbnbgDoorSetAny
import Derived.Test.YbulkbnbgDoorTz
namespace Go.Proofs.YbulkbnbgDoor.Pr
set_option linter.unusedSimpArgs false
open Go.ChangeShapes Go.WideShapes Go.ChangeAt Go.RowKit

/-- What stands in a block of a function's text, by the block's number. -/
def blk (n : Nat) : Code → Option Code
  | .block i c => if i = n then some c else blk n c
  | .seq a b => match blk n a with | some c => some c | none => blk n b
  | .cond _ a b => match blk n a with | some c => some c | none => blk n b
  | .loop c => blk n c
  | .scope c => blk n c
  | _ => none

theorem lit195 (b : Act) (g : Nat → Value) (hg : ∀ t, b.tmps[t]?.getD undef = g t) (hN : b.tmps.size = 195) (hd : b.defers = []) : b = { tmps := (g 0 :: g 1 :: g 2 :: g 3 :: g 4 :: g 5 :: g 6 :: g 7 :: g 8 :: g 9 :: g 10 :: g 11 :: g 12 :: g 13 :: g 14 :: g 15 :: g 16 :: g 17 :: g 18 :: g 19 :: g 20 :: g 21 :: g 22 :: g 23 :: g 24 :: g 25 :: g 26 :: g 27 :: g 28 :: g 29 :: g 30 :: g 31 :: g 32 :: g 33 :: g 34 :: g 35 :: g 36 :: g 37 :: g 38 :: g 39 :: g 40 :: g 41 :: g 42 :: g 43 :: g 44 :: g 45 :: g 46 :: g 47 :: g 48 :: g 49 :: g 50 :: g 51 :: g 52 :: g 53 :: g 54 :: g 55 :: g 56 :: g 57 :: g 58 :: g 59 :: g 60 :: g 61 :: g 62 :: g 63 :: g 64 :: g 65 :: g 66 :: g 67 :: g 68 :: g 69 :: g 70 :: g 71 :: g 72 :: g 73 :: g 74 :: g 75 :: g 76 :: g 77 :: g 78 :: g 79 :: g 80 :: g 81 :: g 82 :: g 83 :: g 84 :: g 85 :: g 86 :: g 87 :: g 88 :: g 89 :: g 90 :: g 91 :: g 92 :: g 93 :: g 94 :: g 95 :: g 96 :: g 97 :: g 98 :: g 99 :: g 100 :: g 101 :: g 102 :: g 103 :: g 104 :: g 105 :: g 106 :: g 107 :: g 108 :: g 109 :: g 110 :: g 111 :: g 112 :: g 113 :: g 114 :: g 115 :: g 116 :: g 117 :: g 118 :: g 119 :: g 120 :: g 121 :: g 122 :: g 123 :: g 124 :: g 125 :: g 126 :: g 127 :: g 128 :: g 129 :: g 130 :: g 131 :: g 132 :: g 133 :: g 134 :: g 135 :: g 136 :: g 137 :: g 138 :: g 139 :: g 140 :: g 141 :: g 142 :: g 143 :: g 144 :: g 145 :: g 146 :: g 147 :: g 148 :: g 149 :: g 150 :: g 151 :: g 152 :: g 153 :: g 154 :: g 155 :: g 156 :: g 157 :: g 158 :: g 159 :: g 160 :: g 161 :: g 162 :: g 163 :: g 164 :: g 165 :: g 166 :: g 167 :: g 168 :: g 169 :: g 170 :: g 171 :: g 172 :: g 173 :: g 174 :: g 175 :: g 176 :: g 177 :: g 178 :: g 179 :: g 180 :: g 181 :: g 182 :: g 183 :: g 184 :: g 185 :: g 186 :: g 187 :: g 188 :: g 189 :: g 190 :: g 191 :: g 192 :: g 193 :: g 194 :: []).toArray, defers := [] } := by
  obtain ⟨tm, df⟩ := b
  obtain rfl : df = [] := hd
  obtain rfl : (fun t => tm[t]?.getD undef) = g := funext hg
  exact congrArg (fun x => Act.mk x []) (tmps_eq hN)

theorem Tab.keeps {w w' : World} {D : Nat → Prop} (h : Tab w) (hK : Keeps D w w') (h0 : ¬ D 0) : Tab w' := by
  intro j hj
  have hc := h j hj
  have hlt := World.block_lt_of_cell? w _ hc
  rw [World.cell?_of_block (hK.block 0 (by simpa using hlt) h0)]
  exact hc

theorem strike_bits' (x : Nat) (hx : x < 18446744073709551616) (hx0 : x ≠ 0) : bits .and .u64 (x : Int) ((x : Int) - 1) = ((x &&& (x - 1) : Nat) : Int) := by
  have h := strike_bits x hx hx0
  rwa [IntWalk.u64_in _ ⟨by omega, by omega⟩] at h

/-- THE SEARCH WHILE A LITERAL's CONSEQUENCES ARE DRAWN: s1, w1: as it stood when that began; hd: how many literals are done. -/
structure Pk (c : Cfg) (T : Nat → Nat → Prop) (hd : Nat) (s1 : PS) (w1 : World) (s : PS) (w : World) : Prop where
  st : St c s w
  inv : Inv c T { s with head := hd }
  tab : Tab w
  pos : Pos c s
  ext : Ext c s1 s
  fr : Fr c s1 w1 s w

theorem Pk.go {c : Cfg} {T : Nat → Nat → Prop} {hd : Nat} {s1 s s' : PS} {w1 w w' : World} (h : Pk c T hd s1 w1 s w) (hS : St c s' w') (hI : Inv c T { s' with head := hd }) (hE : Ext c s s') (hF : Fr c s w s' w') : Pk c T hd s1 w1 s' w' :=
  ⟨hS, hI, h.tab.keeps hF.1 (fun h0 => h.pos.own 0 h0 rfl), h.pos.fr hF (by have := World.block_lt_of_cell? w _ (h.tab 0 (by omega)); simp at this; omega), h.ext.trans hE, h.fr.trans hF⟩

theorem Pk.drewN {c : Cfg} {T : Nat → Nat → Prop} {hd : Nat} {s1 s : PS} {w1 w : World} (h : Pk c T hd s1 w1 s w) (k : Nat) : Pk c T hd s1 w1 s (w.drewN k) :=
  h.go (h.st.drewN k) h.inv (Ext.refl _ _) ⟨(Keeps.refl _ _).drewN k, Or.inl rfl⟩

/-- The literal with the conflict: what is left. -/
def Broke (c : Cfg) (T : Nat → Nat → Prop) (s1 : PS) (w1 w : World) : Prop := (∃ x, T x x) ∧ Wk c w ∧ Keeps (own c s1.tv.ownBlock) w1 w

/-- The frame that stays while one word's bits are gone through. -/
def Fx1 (c : Cfg) (v5 v8 v9 : Value) (a b k : Nat) (f : Act) : Prop :=
  f.tmps.size = 195 ∧ f.defers = [] ∧ f.tmps[0]?.getD undef = .pointer (some ⟨c.P, 0, none⟩) ∧ f.tmps[3]?.getD undef = .int .i64 (c.n : Int) ∧ f.tmps[4]?.getD undef = .int .i64 (c.words : Int) ∧
  f.tmps[5]?.getD undef = v5 ∧ f.tmps[6]?.getD undef = .int .i64 (a : Int) ∧ f.tmps[7]?.getD undef = .int .i64 (b : Int) ∧ f.tmps[8]?.getD undef = v8 ∧ f.tmps[9]?.getD undef = v9 ∧ f.tmps[10]?.getD undef = .int .i64 (k : Int) ∧
  f.tmps[92]?.getD undef = .int .i64 (c.words : Int) ∧ f.tmps[93]?.getD undef = .int .i64 (k : Int)

/-- What holds at the head of the loop over a word's bits. -/
def Bits1 (c : Cfg) (T : Nat → Nat → Prop) (hd : Nat) (s1 : PS) (w1 : World) (M2 : Nat → Nat) (a b k x : Nat) (w : World) : Prop :=
  x < 18446744073709551616 ∧ ∃ s, Pk c T hd s1 w1 s w ∧ (∀ x y, y < c.n → R c M2 x y = true → R c s.Mb x y = true) ∧ (∀ t, t < 64 → x.testBit t = true → k * 64 + t < c.n ∧ R c s.Mb (k * 64 + t) a = true) ∧
    (∀ t, t < 64 → k * 64 + t < c.n → R c s1.Mb (k * 64 + t) a = true → x.testBit t = true ∨ R c s.Mb (k * 64 + t) b = true)

def I1 (c : Cfg) (T : Nat → Nat → Prop) (hd : Nat) (s1 : PS) (w1 : World) (M2 : Nat → Nat) (v5 v8 v9 : Value) (a b k : Nat) (n : Nat) (f : Act) (w : World) : Prop :=
  Fx1 c v5 v8 v9 a b k f ∧ f.tmps[11]?.getD undef = .int .u64 (n : Int) ∧ Bits1 c T hd s1 w1 M2 a b k n w

set_option maxRecDepth 100000 in
set_option maxHeartbeats 2000000 in
theorem word1 {Q : Exit → Act → World → Prop} (c : Cfg) (T : Nat → Nat → Prop) (htrans : ∀ x y z, T x y → T y z → T x z) (hd : Nat) (s1 : PS) (w1 : World) (M2 : Nat → Nat) (v5 v8 v9 : Value) (a b k x : Nat) (ha : a < c.n) (hb : b < c.n) (hk : k < c.words)
    (hRab : R c s1.Mb a b = true) (f : Act) (w : World) (hI : I1 c T hd s1 w1 M2 v5 v8 v9 a b k x f w)
    (hnext : ∀ f' w', Fx1 c v5 v8 v9 a b k f' → Bits1 c T hd s1 w1 M2 a b k 0 w' → Q (.exit 4) f' w')
    (hret : ∀ f' w', f'.tmps.size = 195 → f'.defers = [] → f'.tmps[2]?.getD undef = .bool true → Broke c T s1 w1 w' → Q .ret f' w') :
    Code.wp Ybad.prog ((Ybad.f12.body.bind (blk 4)).getD .skip) Q f w := by
  conv => arg 2; whnf
  refine wp_loop_ghost (I1 c T hd s1 w1 M2 v5 v8 v9 a b k) x hI ?_
  intro n f w hI
  obtain ⟨⟨hsz, hds, e0, e3, e4, e5, e6, e7, e8, e9, ek, ebd, eix⟩, ex, hx64, s, hPk, hmn, hin, hpr⟩ := hI
  obtain ⟨g, hg⟩ : ∃ g : Nat → Value, ∀ t, f.tmps[t]?.getD undef = g t := ⟨_, fun _ => rfl⟩
  rw [hg] at e0 e3 e4 e5 e6 e7 e8 e9 ek ebd eix ex
  rw [lit195 f g hg hsz hds, e0, e3, e4, e5, e6, e7, e8, e9, ek, ebd, eix, ex]
  clear hg hsz hds e0 e3 e4 e5 e6 e7 e8 e9 ek ebd eix ex
  have hok := hPk.st.ok
  have hn2 := hok.n80
  have hw2 := hok.w2
  by_cases hx0 : n = 0
  · subst hx0
    have hz : ((0 : Int) != 0) = false := by decide
    have HB : Hid (Bits1 c T hd s1 w1 M2 a b k 0 w) := ⟨hx64, s, hPk, hmn, hin, hpr⟩
    clear hPk hin hpr hI hmn
    go_wp2_with fail
    exact hnext _ _ ⟨rfl, rfl, rfl, rfl, rfl, rfl, rfl, rfl, rfl, rfl, rfl, rfl, rfl⟩ HB.out
  · have hz : ((n : Int) != 0) = true := by simpa using hx0
    obtain ⟨hs1, hs2, hs3⟩ := strike n hx64 hx0 0
    obtain ⟨hcn, hRc⟩ := hin _ hs3 hs2
    have hsb := strike_bits' n hx64 hx0
    have hslt := strike_lt n hx0
    have HSt : Hid (∀ t, (n &&& (n - 1)).testBit t = (n.testBit t && decide (t ≠ Lib.ctz 64 n))) := fun t => (strike n hx64 hx0 t).1
    have hcb : k * 64 + Lib.ctz 64 n ≠ b := by
      intro e
      have h1 := hPk.inv.anti a b ha hb (hPk.ext.mono a b hb hRab)
      have h2 : R c s.Mb b a = true := by rw [← e]; exact hRc
      have h3 : R c s.Mb b a = false := h1
      rw [h2] at h3; cases h3
    have hTc : T (k * 64 + Lib.ctz 64 n) b := htrans _ a _ (hPk.inv.sound _ a hcn ha hRc) (hPk.inv.sound a b ha hb (hPk.ext.mono a b hb hRab))
    have hR2 := hPk.ext.mono a b hb hRab
    have hbdl := lit_bd (L := ((k * 64 + Lib.ctz 64 n : Nat) : Int) * (c.n : Int) + (b : Int)) rfl hcn hb hn2
    have hz0 : (0 : Int) ≤ ((k * 64 + Lib.ctz 64 n : Nat) : Int) * (c.n : Int) := by exact_mod_cast Nat.zero_le _
    push_cast at hbdl hz0
    have hctz : Lib.ctz 64 n < 64 := hs3
    generalize hctd : Lib.ctz 64 n = ct at *
    clear hs1
    have HP : Hid (Pk c T hd s1 w1 s w) := hPk
    have HIn : Hid (_) := hin
    have HMn : Hid (_) := hmn
    have HPr : Hid (_) := hpr
    have HSB : Hid (_) := hsb
    clear hPk hin hpr hI hsb hmn
    go_wp2_with fail
    refine (tz_any n hx64 hx0 w HP.out.tab).mono ?_
    rintro e w' ⟨rfl, rfl⟩
    rw [hctd]
    clear hctd
    go_wp2_with fail
    refine (set_any c T s _ hd HP.out.st HP.out.inv htrans _ _ (k * 64 + ct) b (by push_cast; rfl) hcn hb hcb hTc (Or.inr ⟨a, rfl, ha⟩)).mono ?_
    rintro e w2 (⟨rfl, s', hS', hI', hE', hR', hF'⟩ | ⟨rfl, hcy, hwk, hkp⟩)
    · have hPk' := HP.out.go hS' hI' hE' hF'
      have HN : Hid (Bits1 c T hd s1 w1 M2 a b k (n &&& (n - 1)) w2) := by
        refine ⟨by omega, s', hPk', fun x y hy h => hE'.mono _ _ hy (HMn.out x y hy h), fun t ht hbt => ?_, fun t ht htn hr => ?_⟩
        · rw [HSt.out t, Bool.and_eq_true] at hbt
          obtain ⟨h1, h2⟩ := HIn.out t ht hbt.1
          exact ⟨h1, hE'.mono _ _ ha h2⟩
        · by_cases e : t = ct
          · subst e; exact Or.inr hR'
          · rcases HPr.out t ht htn hr with h | h
            · refine Or.inl ?_
              rw [HSt.out t, h]; simpa using e
            · exact Or.inr (hE'.mono _ _ hb h)
      clear hPk' hS' hI' hE' hF' hR'
      have HSB' := HSB.out
      go_wp2_with fail
      refine ⟨_, hslt, ⟨rfl, rfl, rfl, rfl, rfl, rfl, rfl, rfl, rfl, rfl, rfl, rfl, rfl⟩, ?_, HN.out⟩
      first | rfl | exact congrArg (Value.int .u64) HSB'
    · have HB : Hid (Broke c T s1 w1 w2) := ⟨hcy, hwk, HP.out.fr.keeps hkp⟩
      clear hcy hwk hkp
      go_wp2_with fail
      exact hret _ _ rfl rfl rfl HB.out

/-- The frame that stays while one word's bits are gone through. -/
def Fx2 (c : Cfg) (v5 v8 v9 : Value) (a b k : Nat) (f : Act) : Prop :=
  f.tmps.size = 195 ∧ f.defers = [] ∧ f.tmps[0]?.getD undef = .pointer (some ⟨c.P, 0, none⟩) ∧ f.tmps[3]?.getD undef = .int .i64 (c.n : Int) ∧ f.tmps[4]?.getD undef = .int .i64 (c.words : Int) ∧
  f.tmps[5]?.getD undef = v5 ∧ f.tmps[6]?.getD undef = .int .i64 (a : Int) ∧ f.tmps[7]?.getD undef = .int .i64 (b : Int) ∧ f.tmps[8]?.getD undef = v8 ∧ f.tmps[9]?.getD undef = v9 ∧ f.tmps[13]?.getD undef = .int .i64 (k : Int) ∧
  f.tmps[154]?.getD undef = .int .i64 (c.words : Int) ∧ f.tmps[155]?.getD undef = .int .i64 (k : Int)

/-- What holds at the head of the loop over a word's bits. -/
def Bits2 (c : Cfg) (T : Nat → Nat → Prop) (hd : Nat) (s1 : PS) (w1 : World) (M2 : Nat → Nat) (a b k x : Nat) (w : World) : Prop :=
  x < 18446744073709551616 ∧ ∃ s, Pk c T hd s1 w1 s w ∧ (∀ x y, y < c.n → R c M2 x y = true → R c s.Mb x y = true) ∧ (∀ t, t < 64 → x.testBit t = true → k * 64 + t < c.n ∧ R c s.Mb b (k * 64 + t) = true) ∧
    (∀ t, t < 64 → k * 64 + t < c.n → R c s1.Mb b (k * 64 + t) = true → x.testBit t = true ∨ R c s.Mb a (k * 64 + t) = true)

def I2 (c : Cfg) (T : Nat → Nat → Prop) (hd : Nat) (s1 : PS) (w1 : World) (M2 : Nat → Nat) (v5 v8 v9 : Value) (a b k : Nat) (n : Nat) (f : Act) (w : World) : Prop :=
  Fx2 c v5 v8 v9 a b k f ∧ f.tmps[14]?.getD undef = .int .u64 (n : Int) ∧ Bits2 c T hd s1 w1 M2 a b k n w

set_option maxRecDepth 100000 in
set_option maxHeartbeats 2000000 in
theorem word2 {Q : Exit → Act → World → Prop} (c : Cfg) (T : Nat → Nat → Prop) (htrans : ∀ x y z, T x y → T y z → T x z) (hd : Nat) (s1 : PS) (w1 : World) (M2 : Nat → Nat) (v5 v8 v9 : Value) (a b k x : Nat) (ha : a < c.n) (hb : b < c.n) (hk : k < c.words)
    (hRab : R c s1.Mb a b = true) (f : Act) (w : World) (hI : I2 c T hd s1 w1 M2 v5 v8 v9 a b k x f w)
    (hnext : ∀ f' w', Fx2 c v5 v8 v9 a b k f' → Bits2 c T hd s1 w1 M2 a b k 0 w' → Q (.exit 8) f' w')
    (hret : ∀ f' w', f'.tmps.size = 195 → f'.defers = [] → f'.tmps[2]?.getD undef = .bool true → Broke c T s1 w1 w' → Q .ret f' w') :
    Code.wp Ybad.prog ((Ybad.f12.body.bind (blk 8)).getD .skip) Q f w := by
  conv => arg 2; whnf
  refine wp_loop_ghost (I2 c T hd s1 w1 M2 v5 v8 v9 a b k) x hI ?_
  intro n f w hI
  obtain ⟨⟨hsz, hds, e0, e3, e4, e5, e6, e7, e8, e9, ek, ebd, eix⟩, ex, hx64, s, hPk, hmn, hin, hpr⟩ := hI
  obtain ⟨g, hg⟩ : ∃ g : Nat → Value, ∀ t, f.tmps[t]?.getD undef = g t := ⟨_, fun _ => rfl⟩
  rw [hg] at e0 e3 e4 e5 e6 e7 e8 e9 ek ebd eix ex
  rw [lit195 f g hg hsz hds, e0, e3, e4, e5, e6, e7, e8, e9, ek, ebd, eix, ex]
  clear hg hsz hds e0 e3 e4 e5 e6 e7 e8 e9 ek ebd eix ex
  have hok := hPk.st.ok
  have hn2 := hok.n80
  have hw2 := hok.w2
  by_cases hx0 : n = 0
  · subst hx0
    have hz : ((0 : Int) != 0) = false := by decide
    have HB : Hid (Bits2 c T hd s1 w1 M2 a b k 0 w) := ⟨hx64, s, hPk, hmn, hin, hpr⟩
    clear hPk hin hpr hI hmn
    go_wp2_with fail
    exact hnext _ _ ⟨rfl, rfl, rfl, rfl, rfl, rfl, rfl, rfl, rfl, rfl, rfl, rfl, rfl⟩ HB.out
  · have hz : ((n : Int) != 0) = true := by simpa using hx0
    obtain ⟨hs1, hs2, hs3⟩ := strike n hx64 hx0 0
    obtain ⟨hcn, hRc⟩ := hin _ hs3 hs2
    have hsb := strike_bits' n hx64 hx0
    have hslt := strike_lt n hx0
    have HSt : Hid (∀ t, (n &&& (n - 1)).testBit t = (n.testBit t && decide (t ≠ Lib.ctz 64 n))) := fun t => (strike n hx64 hx0 t).1
    have hcb : a ≠ k * 64 + Lib.ctz 64 n := by
      intro e
      have h1 := hPk.inv.anti a b ha hb (hPk.ext.mono a b hb hRab)
      have h2 : R c s.Mb b a = true := by rw [e]; exact hRc
      have h3 : R c s.Mb b a = false := h1
      rw [h2] at h3; cases h3
    have hTc : T a (k * 64 + Lib.ctz 64 n) := htrans _ b _ (hPk.inv.sound a b ha hb (hPk.ext.mono a b hb hRab)) (hPk.inv.sound b _ hb hcn hRc)
    have hR2 := hPk.ext.mono a b hb hRab
    have hbdl := lit_bd (L := (a : Int) * (c.n : Int) + ((k * 64 + Lib.ctz 64 n : Nat) : Int)) rfl ha hcn hn2
    have hz0 : (0 : Int) ≤ (a : Int) * (c.n : Int) := by exact_mod_cast Nat.zero_le _
    push_cast at hbdl hz0
    have hctz : Lib.ctz 64 n < 64 := hs3
    generalize hctd : Lib.ctz 64 n = ct at *
    clear hs1
    have HP : Hid (Pk c T hd s1 w1 s w) := hPk
    have HIn : Hid (_) := hin
    have HMn : Hid (_) := hmn
    have HPr : Hid (_) := hpr
    have HSB : Hid (_) := hsb
    clear hPk hin hpr hI hsb hmn
    go_wp2_with fail
    refine (tz_any n hx64 hx0 w HP.out.tab).mono ?_
    rintro e w' ⟨rfl, rfl⟩
    rw [hctd]
    clear hctd
    go_wp2_with fail
    refine (set_any c T s _ hd HP.out.st HP.out.inv htrans _ _ a (k * 64 + ct) (by push_cast; rfl) ha hcn hcb hTc (Or.inr ⟨b, rfl, hb⟩)).mono ?_
    rintro e w2 (⟨rfl, s', hS', hI', hE', hR', hF'⟩ | ⟨rfl, hcy, hwk, hkp⟩)
    · have hPk' := HP.out.go hS' hI' hE' hF'
      have HN : Hid (Bits2 c T hd s1 w1 M2 a b k (n &&& (n - 1)) w2) := by
        refine ⟨by omega, s', hPk', fun x y hy h => hE'.mono _ _ hy (HMn.out x y hy h), fun t ht hbt => ?_, fun t ht htn hr => ?_⟩
        · rw [HSt.out t, Bool.and_eq_true] at hbt
          obtain ⟨h1, h2⟩ := HIn.out t ht hbt.1
          exact ⟨h1, hE'.mono _ _ h1 h2⟩
        · by_cases e : t = ct
          · subst e; exact Or.inr hR'
          · rcases HPr.out t ht htn hr with h | h
            · refine Or.inl ?_
              rw [HSt.out t, h]; simpa using e
            · exact Or.inr (hE'.mono _ _ htn h)
      clear hPk' hS' hI' hE' hF' hR'
      have HSB' := HSB.out
      go_wp2_with fail
      refine ⟨_, hslt, ⟨rfl, rfl, rfl, rfl, rfl, rfl, rfl, rfl, rfl, rfl, rfl, rfl, rfl⟩, ?_, HN.out⟩
      first | rfl | exact congrArg (Value.int .u64) HSB'
    · have HB : Hid (Broke c T s1 w1 w2) := ⟨hcy, hwk, HP.out.fr.keeps hkp⟩
      clear hcy hwk hkp
      go_wp2_with fail
      exact hret _ _ rfl rfl rfl HB.out

end Go.Proofs.YbulkbnbgDoor.Pr
