/-
  notifyState, tellReach (no AS in o.reach), announce.
-/
import Derived.Test.YbulkbndkDoorNasp
namespace Go.Proofs.YbulkbndkDoor.Pr
set_option linter.unusedSimpArgs false
set_option linter.unusedVariables false
open Go.ChangeShapes Go.WideShapes Go.ChangeAt Go.RowKit

def up (k : Nat) : Bool := decide (k % 3 ≠ 0)
def inact (k : Nat) : Bool := decide (k % 3 = 1)
def two (i : Nat) : Value := if i = 0 then .string bInactive else .string bActive

set_option maxRecDepth 100000 in
set_option maxHeartbeats 4000000 in
theorem nstate_any (B sg A M gm cl : Nat) (es : Array MapEntry) (s : Sv) (hs : s.Ok) (af : Nat → Value) (S : SS) (n0 : Nat) (hS : S.le n0) (hn0 : n0 ≤ 500000) (w : World) (hB : BX B S w) (hA : AsOk B s A af M w) (hP : Asps B w) (hG : Glob w gm es cl) :
    Calls Ybad.prog 9 #[.pointer (some ⟨sg, 0, none⟩), .pointer (some ⟨A, 0, none⟩)] w fun e w' => e = .returned (.tuple #[]) ∧ BX B (feed up (asN s.st) s.rc s.ss S s.ms) w' ∧ Fr B TB w w' := by
  have HA : Hid (AsOk B s A af M w) := hA
  have HP : Hid (Asps B w) := hP
  have HB : Hid (BX B S w) := hB
  have HG : Hid (Glob w gm es cl) := hG
  have HS : Hid (S.le n0) := hS
  clear hA hP hB hG hS
  go_enter Ybad.func9, Ybad.ntmps9
  go_wp2_with fail
  have c1 := HA.out.row.cell (i := 1) (by omega)
  have c7 := HA.out.row.cell (i := 7) (by omega)
  rw [HA.out.rc] at c1
  rw [HA.out.st] at c7
  refine (stateNotify_any A s.st s.rc hs.rc w gm cl es HG.out c1 c7).mono ?_
  rintro e w1 ⟨p, rfl, hm, hF⟩
  have HM : Hid (IsMsg w1 p (asN s.st) s.rc) := hm
  have HF : Hid (Fr 0 [] w w1) := hF
  clear hm hF c1 c7
  go_wp2_with fail
  have hF2 : Fr 0 [] w1 (w1.alloc (Obj.cells #[.string bInactive, .string bActive] 87)) := (Fr.refl _ _ _).alloc _
  have hr2 : (w1.alloc (Obj.cells #[.string bInactive, .string bActive] 87)).rowIs w1.heap.size 87 2 two := row_new 2 rfl fun i hi => by
    have : i = 0 ∨ i = 1 := by omega
    rcases this with rfl | rfl <;> rfl
  refine (nasp_any B sg A M p (asN s.st) w1.heap.size 2 two s hs af (.slice (some ⟨w1.heap.size, 0, none⟩) 2 2) up S n0 HS.out hn0 (w1.alloc (Obj.cells #[.string bInactive, .string bActive] 87)) ?_ ?_ ?_ ?_ hr2 ?_).mono ?_
  · exact (HB.out.fr HF.out (by simp) (by simp) (by simp) (by simp) (by simp) (by simp) (by simp)).fr hF2 (by simp) (by simp) (by simp) (by simp) (by simp) (by simp) (by simp)
  · exact (HA.out.fr HF.out (by simp) (by simp)).fr hF2 (by simp) (by simp)
  · exact (HP.out.fr HF.out (by simp)).fr hF2 (by simp)
  · exact HM.out.fr hF2 (by simp) (by simp) (by simp)
  · intro k w' hr
    exact contains2 _ k w' (hr.cell (i := 0) (by omega)) (hr.cell (i := 1) (by omega))
  · rintro e w3 ⟨rfl, hB3, hF3⟩
    have HB3 : Hid (BX B (feed up (asN s.st) s.rc s.ss S s.ms) w3) := hB3
    have HF3 : Hid (Fr B TB w w3) := (HF.out.none.trans hF2.none).trans hF3
    clear hB3 hF3 hF2 hr2
    go_wp2_with fail
    go_returns
    exact ⟨rfl, HB3.out, HF3.out⟩

set_option maxRecDepth 100000 in
theorem reach_any (B sg : Nat) (cv sv : Value) (w : World) : Calls Ybad.prog 12 #[.pointer (some ⟨sg, 0, none⟩), .agg #[cv, .slice none 0 0, sv, .pointer none, .slice none 0 0]] w fun e w' => e = .returned (.tuple #[]) ∧ Fr 0 [] w w' := by
  go_enter Ybad.func12, Ybad.ntmps12
  go_wp2_with fail
  go_returns
  exact ⟨rfl, (Fr.refl _ _ _).alloc _⟩

def ann (flt : Nat → Bool) (sel : Sv → Nat) (SV : Nat → Sv) (S : SS) (cs : List Nat) : SS := cs.foldl (fun S c => feed flt (sel (SV c)) (SV c).rc (SV c).ss S (SV c).ms) S
theorem ann_snoc (flt : Nat → Bool) (sel : Sv → Nat) (SV : Nat → Sv) (S : SS) (cs : List Nat) (c : Nat) : ann flt sel SV S (cs ++ [c]) = feed flt (sel (SV c)) (SV c).rc (SV c).ss (ann flt sel SV S cs) (SV c).ms := by
  unfold ann
  rw [List.foldl_append]
  rfl
theorem ann_le {flt : Nat → Bool} {sel : Sv → Nat} {SV : Nat → Sv} : ∀ (cs : List Nat) {S : SS} {n : Nat}, (∀ c ∈ cs, (SV c).Ok) → S.le n → (ann flt sel SV S cs).le (n + 256 * cs.length)
  | [], _, _, _, h => by simpa [ann] using h
  | c :: cs, S, n, hO, h => by
    have h1 := feed_le (flt := flt) (st := sel (SV c)) (rc := (SV c).rc) (ss := (SV c).ss) (SV c).ms h
    have h2 := (hO c (by simp)).len
    have := ann_le (flt := flt) (sel := sel) (SV := SV) cs (fun x hx => hO x (List.mem_cons_of_mem _ hx)) (h1.mono (show _ ≤ n + 256 by omega))
    unfold ann at this ⊢
    rw [List.foldl_cons]
    refine this.mono ?_
    simp; omega

/-- All the servers. -/
def Srvs (B n : Nat) (SV : Nat → Sv) (A M : Nat → Nat) (af : Nat → Nat → Value) (w : World) : Prop := ∀ i, i < n → AsOk B (SV i) (A i) (af i) (M i) w
theorem Srvs.fr {B n B' : Nat} {SV : Nat → Sv} {A M : Nat → Nat} {af : Nat → Nat → Value} {w w' : World} {T : List TypeId} (h : Srvs B n SV A M af w) (hF : Fr B' T w w') (h1 : 86 ∉ T) (h2 : 32 ∉ T) : Srvs B n SV A M af w' := fun i hi => (h i hi).fr hF h1 h2

theorem lit36b (b : Act) (g : Nat → Value) (hg : ∀ t, b.tmps[t]?.getD undef = g t) (hN : b.tmps.size = 36) (hd : b.defers = []) : b = { tmps := (g 0 :: g 1 :: g 2 :: g 3 :: g 4 :: g 5 :: g 6 :: g 7 :: g 8 :: g 9 :: g 10 :: g 11 :: g 12 :: g 13 :: g 14 :: g 15 :: g 16 :: g 17 :: g 18 :: g 19 :: g 20 :: g 21 :: g 22 :: g 23 :: g 24 :: g 25 :: g 26 :: g 27 :: g 28 :: g 29 :: g 30 :: g 31 :: g 32 :: g 33 :: g 34 :: g 35 :: []).toArray, defers := [] } := by
  obtain ⟨tm, df⟩ := b
  obtain rfl : df = [] := hd
  obtain rfl : (fun t => tm[t]?.getD undef) = g := funext hg
  exact congrArg (fun x => Act.mk x []) (tmps_eq hN)

def F7 (sg ob : Nat) (f : Act) : Prop := f.tmps.size = 36 ∧ f.defers = [] ∧ f.tmps[0]?.getD undef = .pointer (some ⟨sg, 0, none⟩) ∧ f.tmps[3]?.getD undef = .pointer (some ⟨ob, 0, none⟩)
def I7a (B sg ob : Nat) (SV : Nat → Sv) (cv : Value) (cs : List Nat) (S : SS) (w0 : World) (n : Nat) (f : Act) (w : World) : Prop :=
  ∃ k, k ≤ cs.length ∧ n = cs.length - k ∧ F7 sg ob f ∧ f.tmps[9]?.getD undef = cv ∧ f.tmps[10]?.getD undef = .int .i64 (cs.length : Int) ∧ f.tmps[11]?.getD undef = .int .i64 (k : Int) ∧ BX B (ann up (fun s => asN s.st) SV S (cs.take k)) w ∧ Fr B TB w0 w
def I7b (B sg ob : Nat) (SV : Nat → Sv) (cv : Value) (cs : List Nat) (S : SS) (w0 : World) (n : Nat) (f : Act) (w : World) : Prop :=
  ∃ k, k ≤ cs.length ∧ n = cs.length - k ∧ F7 sg ob f ∧ f.tmps[20]?.getD undef = cv ∧ f.tmps[21]?.getD undef = .int .i64 (cs.length : Int) ∧ f.tmps[22]?.getD undef = .int .i64 (k : Int) ∧ BX B (ann inact (fun _ => 131073) SV S (cs.take k)) w ∧ Fr B TB w0 w

def oc (cv sv : Value) (i : Nat) : Value := if i = 0 then cv else if i = 2 then sv else if i = 3 then .pointer none else .slice none 0 0

/-- What announce reads. -/
structure Env (B n gm cl : Nat) (es : Array MapEntry) (SV : Nat → Sv) (A M : Nat → Nat) (af : Nat → Nat → Value) (w : World) : Prop where
  srv : Srvs B n SV A M af w
  asp : Asps B w
  glob : Glob w gm es cl
  pos : 0 < B
theorem Env.fr {B n gm cl : Nat} {es : Array MapEntry} {SV : Nat → Sv} {A M : Nat → Nat} {af : Nat → Nat → Value} {w w' : World} {T : List TypeId} (h : Env B n gm cl es SV A M af w) (hF : Fr B T w w') (h1 : 86 ∉ T) (h2 : 32 ∉ T) (h3 : 68 ∉ T) : Env B n gm cl es SV A M af w' :=
  ⟨h.srv.fr hF h1 h2, h.asp.fr hF h3, h.glob.fr hF h.pos, h.pos⟩

set_option maxRecDepth 100000 in
set_option maxHeartbeats 4000000 in
theorem announce_any (B sg n gm cl : Nat) (es : Array MapEntry) (SV : Nat → Sv) (hO : ∀ i, (SV i).Ok) (A M : Nat → Nat) (af : Nat → Nat → Value) (cv sv : Value) (cs ds : List Nat) (hcs : ∀ c ∈ cs, c < n) (hcl : cs.length ≤ 256) (hdd : ∀ c ∈ ds, c < n) (hdl : ds.length ≤ 256) (S : SS) (n0 : Nat) (hS : S.le n0) (hn0 : n0 ≤ 100000)
    (w : World) (hB : BX B S w) (hE : Env B n gm cl es SV A M af w) (hrow : w.ownsRow B 72 1 cv cs.length (cs.map fun c => ptr (A c))) (hrow2 : w.ownsRow B 72 1 sv ds.length (ds.map fun c => ptr (A c))) :
    Calls Ybad.prog 7 #[.pointer (some ⟨sg, 0, none⟩), .agg #[cv, .slice none 0 0, sv, .pointer none, .slice none 0 0]] w fun e w' => e = .returned (.tuple #[]) ∧ BX B (ann inact (fun _ => 131073) SV (ann up (fun s => asN s.st) SV S cs) ds) w' ∧ Fr B TB w w' := by
  obtain ⟨ca, cc, hcv, hcc⟩ := own_shape hrow
  obtain ⟨sa, sc, hsv, hsc⟩ := own_shape hrow2
  have HB : Hid (BX B S w) := hB
  have HE : Hid (Env B n gm cl es SV A M af w) := hE
  have HR1 : Hid (w.ownsRow B 72 1 cv cs.length (cs.map fun c => ptr (A c))) := hrow
  have HR2 : Hid (w.ownsRow B 72 1 sv ds.length (ds.map fun c => ptr (A c))) := hrow2
  have HS : Hid (S.le n0) := hS
  have HO : Hid (∀ i, (SV i).Ok) := hO
  have HD : Hid ((∀ c ∈ cs, c < n) ∧ (∀ c ∈ ds, c < n)) := ⟨hcs, hdd⟩
  clear hB hE hrow hrow2 hcc hsc hS hO hcs hdd
  subst hcv
  subst hsv
  have hF0 : Fr 0 [] w (w.alloc (Obj.cells #[.slice ca cs.length cc, .slice none 0 0, .slice sa ds.length sc, .pointer none, .slice none 0 0] 90)) := (Fr.refl _ _ _).alloc _
  have hob : (w.alloc (Obj.cells #[.slice ca cs.length cc, .slice none 0 0, .slice sa ds.length sc, .pointer none, .slice none 0 0] 90)).rowIs w.heap.size 90 5 (oc (.slice ca cs.length cc) (.slice sa ds.length sc)) := row_new 5 rfl fun i hi => by
    have : i = 0 ∨ i = 1 ∨ i = 2 ∨ i = 3 ∨ i = 4 := by omega
    rcases this with rfl | rfl | rfl | rfl | rfl <;> rfl
  have HF0 : Hid (Fr 0 [] w (w.alloc (Obj.cells #[.slice ca cs.length cc, .slice none 0 0, .slice sa ds.length sc, .pointer none, .slice none 0 0] 90))) := hF0
  have HOB : Hid ((w.alloc (Obj.cells #[.slice ca cs.length cc, .slice none 0 0, .slice sa ds.length sc, .pointer none, .slice none 0 0] 90)).rowIs w.heap.size 90 5 (oc (.slice ca cs.length cc) (.slice sa ds.length sc))) := hob
  clear hF0 hob
  go_enter Ybad.func7, Ybad.ntmps7
  go_wp2_with fail
  refine wp_loop_ghost (I7a B sg w.heap.size SV (.slice ca cs.length cc) cs S (w.alloc (Obj.cells #[.slice ca cs.length cc, .slice none 0 0, .slice sa ds.length sc, .pointer none, .slice none 0 0] 90))) cs.length ⟨0, Nat.zero_le _, rfl, ⟨rfl, rfl, rfl, rfl⟩, rfl, rfl, rfl, by have := HB.out.fr HF0.out (by simp) (by simp) (by simp) (by simp) (by simp) (by simp) (by simp); simpa [ann] using this, Fr.refl _ _ _⟩ ?_
  rintro m f w1 ⟨k, hk, rfl, ⟨hsz, hds, e0, e3⟩, e9, e10, e11, hB1, hF1⟩
  obtain ⟨g, hg⟩ : ∃ g : Nat → Value, ∀ t, f.tmps[t]?.getD undef = g t := ⟨_, fun _ => rfl⟩
  rw [hg] at e0 e3 e9 e10 e11
  rw [lit36 f g hg hsz hds, e0, e3, e9, e10, e11]
  clear hg hsz hds e0 e3 e9 e10 e11
  have HFw : Hid (Fr B TB w w1) := HF0.out.none.trans hF1
  have hr1 := HFw.out.owns HR1.out (by decide)
  have hle1 := ann_le (flt := up) (sel := fun s => asN s.st) (SV := SV) (cs.take k) (fun c _ => HO.out c) HS.out
  have htl : (cs.take k).length ≤ 256 := by rw [List.length_take]; omega
  have HOB1 : Hid (w1.rowIs w.heap.size 90 5 (oc (.slice ca cs.length cc) (.slice sa ds.length sc))) := hF1.row HOB.out (by decide)
  have HB1 : Hid (BX B (ann up (fun s => asN s.st) SV S (cs.take k)) w1) := hB1
  have HF1 : Hid (Fr B TB (w.alloc (Obj.cells #[.slice ca cs.length cc, .slice none 0 0, .slice sa ds.length sc, .pointer none, .slice none 0 0] 90)) w1) := hF1
  clear hB1 hF1
  by_cases hlt : k < cs.length
  · have hI0 : (0 : Int) ≤ (k : Int) := by omega
    have hI1 : (k : Int) < (cs.length : Int) := by omega
    obtain ⟨ca', cc', hcv', hcc'⟩ := own_shape hr1
    obtain ⟨rfl, rfl⟩ : ca = ca' ∧ cc = cc' := by simpa using hcv'
    obtain ⟨b, rfl, hcb⟩ := hcc' k (ptr (A cs[k])) (by rw [List.getElem?_map, List.getElem?_eq_getElem hlt]; rfl)
    have hE1 := HE.out.fr HFw.out (by decide) (by decide) (by decide)
    have hck : cs[k] < n := HD.out.1 _ (List.getElem_mem hlt)
    have hcall := nstate_any B sg (A cs[k]) (M cs[k]) gm cl es (SV cs[k]) (HO.out _) (af cs[k]) _ _ hle1 (by omega) w1 HB1.out (hE1.srv _ hck) hE1.asp hE1.glob
    have hnext : ann up (fun s => asN s.st) SV S (cs.take (k + 1)) = feed up (asN (SV cs[k]).st) (SV cs[k]).rc (SV cs[k]).ss (ann up (fun s => asN s.st) SV S (cs.take k)) (SV cs[k]).ms := by
      rw [take_snoc hlt, ann_snoc]
    rw [← hnext] at hcall
    generalize cs[k] = ck at *
    have HC : Hid (Calls Ybad.prog 9 #[.pointer (some ⟨sg, 0, none⟩), .pointer (some ⟨A ck, 0, none⟩)] w1 fun e w' => e = .returned (.tuple #[]) ∧ BX B (ann up (fun s => asN s.st) SV S (cs.take (k + 1))) w' ∧ Fr B TB w1 w') := hcall
    unfold ptr at hcb
    clear hcall hnext hE1 hcc' hcv' hr1 hle1 htl
    go_wp2_with fail
    refine HC.out.mono ?_
    rintro e w2 ⟨rfl, hB2, hF2⟩
    have HB2 : Hid (BX B (ann up (fun s => asN s.st) SV S (cs.take (k + 1))) w2) := hB2
    have HF2 : Hid (Fr B TB w1 w2) := hF2
    clear hB2 hF2
    go_wp2_with fail
    refine ⟨cs.length - (k + 1), by omega, k + 1, by omega, rfl, ⟨rfl, rfl, rfl, rfl⟩, rfl, rfl, by first | rfl | go_num, HB2.out, HF1.out.trans HF2.out⟩
  · obtain rfl : k = cs.length := by omega
    have hI1 : ¬ (cs.length : Int) < (cs.length : Int) := by omega
    rw [List.take_length] at HB1 hle1
    have o2 := HOB1.out.cell (i := 2) (by omega)
    have HL : Hid ((ann up (fun s => asN s.st) SV S cs).le (n0 + 256 * cs.length)) := hle1
    simp only [oc] at o2
    clear hr1 hle1
    go_wp2_with fail
    refine wp_loop_ghost (I7b B sg w.heap.size SV (.slice sa ds.length sc) ds (ann up (fun s => asN s.st) SV S cs) w1) ds.length ⟨0, Nat.zero_le _, rfl, ⟨rfl, rfl, rfl, rfl⟩, rfl, rfl, rfl, by simpa [ann] using HB1.out, Fr.refl _ _ _⟩ ?_
    rintro m f w2 ⟨k, hk, rfl, ⟨hsz, hds, e0, e3⟩, e20, e21, e22, hB2, hF2⟩
    obtain ⟨g, hg⟩ : ∃ g : Nat → Value, ∀ t, f.tmps[t]?.getD undef = g t := ⟨_, fun _ => rfl⟩
    rw [hg] at e0 e3 e20 e21 e22
    rw [lit36 f g hg hsz hds, e0, e3, e20, e21, e22]
    clear hg hsz hds e0 e3 e20 e21 e22
    have HFw2 : Hid (Fr B TB w w2) := HFw.out.trans hF2
    have hr2 := HFw2.out.owns HR2.out (by decide)
    have hle2 := ann_le (flt := inact) (sel := fun _ => 131073) (SV := SV) (ds.take k) (fun c _ => HO.out c) HL.out
    have htl2 : (ds.take k).length ≤ 256 := by rw [List.length_take]; omega
    have HOB2 : Hid (w2.rowIs w.heap.size 90 5 (oc (.slice ca cs.length cc) (.slice sa ds.length sc))) := hF2.row HOB1.out (by decide)
    have HB2 : Hid (BX B (ann inact (fun _ => 131073) SV (ann up (fun s => asN s.st) SV S cs) (ds.take k)) w2) := hB2
    have HF2 : Hid (Fr B TB w1 w2) := hF2
    clear hB2 hF2
    by_cases hlt2 : k < ds.length
    · have hI0 : (0 : Int) ≤ (k : Int) := by omega
      have hI2 : (k : Int) < (ds.length : Int) := by omega
      obtain ⟨sa', sc', hsv', hsc'⟩ := own_shape hr2
      obtain ⟨rfl, rfl⟩ : sa = sa' ∧ sc = sc' := by simpa using hsv'
      obtain ⟨b, rfl, hcb⟩ := hsc' k (ptr (A ds[k])) (by rw [List.getElem?_map, List.getElem?_eq_getElem hlt2]; rfl)
      have hE2 := HE.out.fr HFw2.out (by decide) (by decide) (by decide)
      have hck : ds[k] < n := HD.out.2 _ (List.getElem_mem hlt2)
      have hnext : ann inact (fun _ => 131073) SV (ann up (fun s => asN s.st) SV S cs) (ds.take (k + 1)) = feed inact 131073 (SV ds[k]).rc (SV ds[k]).ss (ann inact (fun _ => 131073) SV (ann up (fun s => asN s.st) SV S cs) (ds.take k)) (SV ds[k]).ms := by
        rw [take_snoc hlt2, ann_snoc]
      generalize ds[k] = dk at *
      have hA2 := hE2.srv _ hck
      have c1 := hA2.row.cell (i := 1) (by omega)
      rw [hA2.rc] at c1
      have HE2 : Hid (Env B n gm cl es SV A M af w2) := hE2
      have HN : Hid (ann inact (fun _ => 131073) SV (ann up (fun s => asN s.st) SV S cs) (ds.take (k + 1)) = feed inact 131073 (SV dk).rc (SV dk).ss (ann inact (fun _ => 131073) SV (ann up (fun s => asN s.st) SV S cs) (ds.take k)) (SV dk).ms) := hnext
      have HLe : Hid ((ann inact (fun _ => 131073) SV (ann up (fun s => asN s.st) SV S cs) (ds.take k)).le (n0 + 256 * cs.length + 256 * (ds.take k).length)) := hle2
      have HC1 : Hid (w2.cell? ⟨A dk, 1, none⟩ = some (.int .u32 ((SV dk).rc : Int))) := c1
      unfold ptr at hcb
      clear hnext hE2 hA2 c1 hsc' hsv' hr2 hle2 o2
      go_wp2_with fail
      refine (notify_any (A dk) 131073 (SV dk).rc (by omega) (HO.out dk).rc w2 HC1.out).mono ?_
      rintro e w3 ⟨p, rfl, hm3, hF3⟩
      have HM3 : Hid (IsMsg w3 p 131073 (SV dk).rc) := hm3
      have HF3 : Hid (Fr 0 [] w2 w3) := hF3
      clear hm3 hF3
      go_wp2_with fail
      have hF4 : Fr 0 [] w3 (w3.alloc (Obj.cells #[.string bInactive] 87)) := (Fr.refl _ _ _).alloc _
      have hr4 : (w3.alloc (Obj.cells #[.string bInactive] 87)).rowIs w3.heap.size 87 1 two := row_new 1 rfl fun i hi => by
        have : i = 0 := by omega
        subst this; rfl
      have hF5 : Fr B TB w2 (w3.alloc (Obj.cells #[.string bInactive] 87)) := (HF3.out.trans hF4).none
      refine (nasp_any B sg (A dk) (M dk) p 131073 w3.heap.size 1 two (SV dk) (HO.out dk) (af dk) (.slice (some ⟨w3.heap.size, 0, none⟩) 1 1) inact _ _ HLe.out (by omega) (w3.alloc (Obj.cells #[.string bInactive] 87)) ?_ ?_ ?_ ?_ hr4 ?_).mono ?_
      · exact (HB2.out.fr HF3.out (by simp) (by simp) (by simp) (by simp) (by simp) (by simp) (by simp)).fr hF4 (by simp) (by simp) (by simp) (by simp) (by simp) (by simp) (by simp)
      · exact (HE2.out.srv dk hck).fr hF5 (by decide) (by decide)
      · exact HE2.out.asp.fr hF5 (by decide)
      · exact HM3.out.fr hF4 (by simp) (by simp) (by simp)
      · intro k w' hr
        exact contains1 _ k w' (hr.cell (i := 0) (by omega))
      · rintro e w6 ⟨rfl, hB6, hF6⟩
        rw [← HN.out] at hB6
        have HB6 : Hid (BX B (ann inact (fun _ => 131073) SV (ann up (fun s => asN s.st) SV S cs) (ds.take (k + 1))) w6) := hB6
        have HF6 : Hid (Fr B TB w1 w6) := HF2.out.trans (hF5.trans hF6)
        clear hB6 hF6 hF5 hF4 hr4
        go_wp2_with fail
        refine ⟨ds.length - (k + 1), by omega, k + 1, by omega, rfl, ⟨rfl, rfl, rfl, rfl⟩, rfl, rfl, by first | rfl | go_num, HB6.out, HF6.out⟩
    · obtain rfl : k = ds.length := by omega
      have hI2 : ¬ (ds.length : Int) < (ds.length : Int) := by omega
      rw [List.take_length] at HB2
      have p0 := HOB2.out.cell (i := 0) (by omega)
      have p1 := HOB2.out.cell (i := 1) (by omega)
      have p2 := HOB2.out.cell (i := 2) (by omega)
      have p3 := HOB2.out.cell (i := 3) (by omega)
      have p4 := HOB2.out.cell (i := 4) (by omega)
      simp only [oc] at p0 p1 p2 p3 p4
      clear hr2 hle2 o2
      go_wp2_with fail
      refine (reach_any B sg _ _ w2).mono ?_
      rintro e w3 ⟨rfl, hF3⟩
      have HF3 : Hid (Fr 0 [] w2 w3) := hF3
      clear hF3
      go_wp2_with fail
      go_returns
      exact ⟨rfl, HB2.out.fr HF3.out (by simp) (by simp) (by simp) (by simp) (by simp) (by simp) (by simp), HFw2.out.trans HF3.out.none⟩
end Go.Proofs.YbulkbndkDoor.Pr
