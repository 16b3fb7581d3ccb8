/-
  The law from the call of announce on.
-/
import Derived.Test.YbulkbndkDoorLoG
namespace Go.Proofs.YbulkbndkDoor.Pr
set_option linter.unusedSimpArgs false
set_option linter.unusedVariables false
open Go.ChangeShapes Go.WideShapes Go.ChangeAt Go.RowKit

theorem wp_seq_k {P : Program} {Q : Exit → Act → World → Prop} {a : Act} {w : World} {x y : Code} (h : ∀ K : Act → World → Prop, (∀ a w, y.wp P Q a w → K a w) → x.wp P (Exit.then K Q) a w) : (Code.seq x y).wp P Q a w := wp_seq (h _ fun _ _ h => h)

/-- The code from a region on. -/
def from_ (n : Nat) : Code → Option Code
  | .seq (.region i ops d) b => if i = n then some (.seq (.region i ops d) b) else from_ n b
  | .seq a b => match from_ n a with | some c => some c | none => from_ n b
  | .cond _ a b => match from_ n a with | some c => some c | none => from_ n b
  | .loop c => from_ n c
  | .block _ c => from_ n c
  | _ => none

/-- What may come: numbers that fit. -/
structure SS.Good (S : SS) : Prop where
  od : ∀ j ∈ S.od, j < 4
  ex : ∀ j, ∀ e ∈ S.ex j, e.1 < 4294967296 ∧ e.2 < 4294967296
theorem SS.Good.push {S : SS} (h : S.Good) {j : Nat} (hj : j < 4) {e : Nat × Nat} (he : e.1 < 4294967296 ∧ e.2 < 4294967296) : (S.push j e).Good := by
  refine ⟨fun i hi => ?_, fun i x hx => ?_⟩
  · unfold SS.push at hi
    by_cases c : S.ex j = []
    · simp only [c, if_true] at hi
      rcases List.mem_append.1 hi with hi | hi
      · exact h.od i hi
      · rw [List.mem_singleton.1 hi]; exact hj
    · simp only [c, if_false] at hi
      exact h.od i hi
  · unfold SS.push at hx
    by_cases c : i = j
    · simp only [c, if_true] at hx
      rcases List.mem_append.1 hx with hx | hx
      · exact h.ex j x hx
      · rw [List.mem_singleton.1 hx]; exact he
    · simp only [c, if_false] at hx
      exact h.ex i x hx
theorem feed_good {flt : Nat → Bool} {st rc : Nat} {ss : Nat → Nat} (hst : st < 4294967296) (hrc : rc < 4294967296) : ∀ (ms : List Nat) {S : SS}, S.Good → (feed flt st rc ss S ms).Good
  | [], _, h => h
  | m :: ms, S, h => by
    have h1 : (if flt (ss (m % 4)) then S.push (m % 4) (st, rc) else S).Good := by
      split
      · exact h.push (Nat.mod_lt _ (by omega)) ⟨hst, hrc⟩
      · exact h
    exact feed_good (flt := flt) (ss := ss) hst hrc ms h1
theorem ann_good {flt : Nat → Bool} {sel : Sv → Nat} {SV : Nat → Sv} (hO : ∀ i, (SV i).Ok) (hsel : ∀ s, sel s < 4294967296) : ∀ (cs : List Nat) {S : SS}, S.Good → (ann flt sel SV S cs).Good
  | [], _, h => h
  | c :: cs, S, h => ann_good (flt := flt) hO hsel cs (feed_good (hsel _) (hO c).rc (SV c).ms h)

theorem eval_tmp (b : Act) (t : Nat) : b.eval (.tmp t) = b.tmps[t]?.getD undef := by simp [Act.eval]
theorem run_box {P : Program} (b : Act) (w : World) (o : Oper) (t : TypeId) (x : Operand) (ho : o.op = .box t x) : (execOp b.eval o).run P w = .ok (.value (.pointer (some ⟨w.heap.size, 0, none⟩))) (w.alloc (.cells (b.eval x).cells t)) := by
  unfold execOp
  simp only [ho, Sem.run_bind, Instr.box, newVar, newRow, run_newObj_alloc, Sem.run_pure, Result.andThen_ok]
theorem put_at (f : Act) (d : Nat) (v : Value) (h : d < f.tmps.size) : (f.put (some d) v).tmps[d]?.getD undef = v := by simp [Act.put, h]
theorem put_ne (f : Act) (d t : Nat) (v : Value) (h : t ≠ d) : (f.put (some d) v).tmps[t]?.getD undef = f.tmps[t]?.getD undef := by simp [Act.put, Array.getElem?_setIfInBounds_ne (Ne.symm h)]

def S0 : SS := ⟨fun _ => [], []⟩

theorem built132 : (Ybad.prog.built 132 []).isSome = true := by kernel_rfl

set_option maxRecDepth 100000 in
theorem reg66 {Q : Exit → Act → World → Prop} (B O X Od : Nat) (f : Act) (w : World) (hsz : f.tmps.size = 368) (hds : f.defers = []) (e8 : f.tmps[8]?.getD undef = .pointer (some ⟨B, 0, none⟩)) (e10 : f.tmps[10]?.getD undef = .pointer (some ⟨B + 2, 0, none⟩)) (e21 : f.tmps[21]?.getD undef = .pointer (some ⟨O, 0, none⟩)) (e22 : f.tmps[22]?.getD undef = .pointer (some ⟨X, 0, none⟩)) (e23 : f.tmps[23]?.getD undef = .pointer (some ⟨Od, 0, none⟩))
    (hend : ∀ f' w' sg, f'.tmps.size = 368 ∧ f'.defers = [] ∧ f'.tmps[8]?.getD undef = .pointer (some ⟨B, 0, none⟩) ∧ f'.tmps[10]?.getD undef = .pointer (some ⟨B + 2, 0, none⟩) ∧ f'.tmps[21]?.getD undef = .pointer (some ⟨O, 0, none⟩) ∧ f'.tmps[22]?.getD undef = .pointer (some ⟨X, 0, none⟩) ∧ f'.tmps[23]?.getD undef = .pointer (some ⟨Od, 0, none⟩) ∧ f'.tmps[39]?.getD undef = .pointer (some ⟨sg, 0, none⟩) → Fr 0 [] w w' → Q .normal f' w') :
    Code.wp Ybad.prog ((Ybad.f3.body.bind (reg 66)).getD .skip) Q f w := by
  conv => arg 2; whnf
  obtain ⟨cells, hc⟩ := Option.isSome_iff_exists.1 built132
  have hrb := run_build (P := Ybad.prog) w 132 #[] cells hc
  refine wp_region_lit ?_
  refine wpList_plain rfl fun K hK => ?_
  refine wp_of_value (v := .agg cells) (w' := w) (by simp [execOp, hrb, Result.andThen]) ?_
  refine hK _ _ ?_
  refine wpList_plain rfl fun K2 hK2 => ?_
  refine wp_of_value (run_box _ _ _ _ _ rfl) ?_
  refine hK2 _ _ ?_
  refine wpList_plain rfl fun K3 hK3 => ?_
  refine wp_of_value (v := .pointer (some ⟨w.heap.size, 0, none⟩)) (w' := w.alloc (Obj.cells ((f.put (some 294) (Value.agg cells)).eval (Operand.tmp 294)).cells 132)) ?_ ?_
  · have h1 : (Act.eval ((f.put (some 294) (.agg cells)).put (some 295) (.pointer (some ⟨w.heap.size, 0, none⟩))) (.tmp 295)) = .pointer (some ⟨w.heap.size, 0, none⟩) := by
      rw [eval_tmp, put_at _ _ _ (by simp [Act.put, hsz])]
    simp [execOp, h1, Result.andThen]
  refine hK3 _ _ ?_
  have key : ∀ t, t ≠ 294 → t ≠ 295 → t ≠ 39 → ((((f.put (some 294) (.agg cells)).put (some 295) (.pointer (some ⟨w.heap.size, 0, none⟩))).put (some 39) (.pointer (some ⟨w.heap.size, 0, none⟩))).tmps[t]?.getD undef) = f.tmps[t]?.getD undef := fun t h1 h2 h3 => by
    rw [put_ne _ _ _ _ h3, put_ne _ _ _ _ h2, put_ne _ _ _ _ h1]
  refine hend _ _ w.heap.size ⟨by simp [Act.put, hsz], by simp [Act.put, hds], (key 8 (by omega) (by omega) (by omega)).trans e8, (key 10 (by omega) (by omega) (by omega)).trans e10, (key 21 (by omega) (by omega) (by omega)).trans e21, (key 22 (by omega) (by omega) (by omega)).trans e22, (key 23 (by omega) (by omega) (by omega)).trans e23, put_at _ _ _ (by simp [Act.put, hsz])⟩ ((Fr.refl _ _ _).alloc _)

def ocell (cv sv : Value) : ∀ i, i < 5 → Value := fun i _ => oc cv sv i

set_option maxRecDepth 100000 in
set_option maxHeartbeats 8000000 in
theorem law_tail {Q : Exit → Act → World → Prop} (B n gm cl O X Od : Nat) (es : Array MapEntry) (SV : Nat → Sv) (hO : ∀ i, (SV i).Ok) (A M : Nat → Nat) (af : Nat → Nat → Value) (cv sv : Value) (cs ds : List Nat) (hcs : ∀ c ∈ cs, c < n) (hcl : cs.length ≤ 256) (hdd : ∀ c ∈ ds, c < n) (hdl : ds.length ≤ 256) (w : World) (hB : BX B S0 w) (hE : Env B n gm cl es SV A M af w)
    (hrow : w.ownsRow B 72 1 cv cs.length (cs.map fun c => ptr (A c))) (hrow2 : w.ownsRow B 72 1 sv ds.length (ds.map fun c => ptr (A c))) (hob : w.rowIs O 90 5 (oc cv sv)) (hX : EX B X Od (ann inact (fun _ => 131073) SV (ann up (fun s => asN s.st) SV S0 cs) ds) w) (hq : w.rowIs (B + 2) 35 4 (fun i => ptr (asb B i)))
    (f : Act) (hsz : f.tmps.size = 368) (hds : f.defers = []) (e8 : f.tmps[8]?.getD undef = .pointer (some ⟨B, 0, none⟩)) (e10 : f.tmps[10]?.getD undef = .pointer (some ⟨B + 2, 0, none⟩)) (e21 : f.tmps[21]?.getD undef = .pointer (some ⟨O, 0, none⟩)) (e22 : f.tmps[22]?.getD undef = .pointer (some ⟨X, 0, none⟩)) (e23 : f.tmps[23]?.getD undef = .pointer (some ⟨Od, 0, none⟩))
    (hret : ∀ f' w', f'.tmps.size = 368 → f'.defers = [] → f'.tmps[6]?.getD undef = .bool true → Fr B TB w w' → Q .ret f' w') :
    Code.wp Ybad.prog ((Ybad.f3.body.bind (from_ 66)).getD .skip) Q f w := by
  conv => arg 2; whnf
  have HR : Hid (∀ f' w', f'.tmps.size = 368 → f'.defers = [] → f'.tmps[6]?.getD undef = .bool true → Fr B TB w w' → Q .ret f' w') := hret
  have HB : Hid (BX B S0 w) := hB
  have HE : Hid (Env B n gm cl es SV A M af w) := hE
  have HX : Hid (EX B X Od (ann inact (fun _ => 131073) SV (ann up (fun s => asN s.st) SV S0 cs) ds) w) := hX
  have HO : Hid (∀ i, (SV i).Ok) := hO
  have hle0 : S0.le 0 := ⟨fun j => by simp [S0], by simp [S0]⟩
  have hle := ann_le (flt := inact) (sel := fun _ => 131073) (SV := SV) ds (fun c _ => hO c) (ann_le (flt := up) (sel := fun s => asN s.st) (SV := SV) cs (fun c _ => hO c) hle0)
  have hgood : (ann inact (fun _ => 131073) SV (ann up (fun s => asN s.st) SV S0 cs) ds).Good := ann_good hO (fun _ => by decide) ds (ann_good hO (fun s => asN_lt s.st) cs ⟨fun j hj => by simp [S0] at hj, fun j e he => by simp [S0] at he⟩)
  refine wp_seq_k fun K hK => ?_
  have HK : Hid (∀ a w, _ → K a w) := hK
  clear hret hB hE hX hO hK
  refine reg66 B O X Od f w hsz hds e8 e10 e21 e22 e23 ?_
  clear e8 e10 e21 e22 e23 hsz hds
  rintro f' w1 sg ⟨hsz, hds, e8, e10, e21, e22, e23, e39⟩ hF1
  refine HK.out _ _ ?_
  clear HK
  obtain ⟨g, hg⟩ : ∃ g : Nat → Value, ∀ t, f'.tmps[t]?.getD undef = g t := ⟨_, fun _ => rfl⟩
  rw [hg] at e8 e10 e21 e22 e23 e39
  rw [lit368 f' g hg hsz hds, e8, e10, e21, e22, e23, e39]
  clear hg hsz hds e8 e10 e21 e22 e23 e39
  have hob1 := hF1.row hob (by simp)
  have p0 := hob1.cell (i := 0) (by omega)
  have p1 := hob1.cell (i := 1) (by omega)
  have p2 := hob1.cell (i := 2) (by omega)
  have p3 := hob1.cell (i := 3) (by omega)
  have p4 := hob1.cell (i := 4) (by omega)
  obtain ⟨ca, cc, hcv, _⟩ := own_shape hrow
  obtain ⟨sa, sc, hsv, _⟩ := own_shape hrow2
  simp only [oc] at p0 p1 p2 p3 p4
  have HR1 : Hid (w1.ownsRow B 72 1 cv cs.length (cs.map fun c => ptr (A c))) := hF1.owns hrow (by simp)
  have HR2 : Hid (w1.ownsRow B 72 1 sv ds.length (ds.map fun c => ptr (A c))) := hF1.owns hrow2 (by simp)
  have HF1 : Hid (Fr 0 [] w w1) := hF1
  have HQ : Hid (w.rowIs (B + 2) 35 4 (fun i => ptr (asb B i))) := hq
  have HLe : Hid ((ann inact (fun _ => 131073) SV (ann up (fun s => asN s.st) SV S0 cs) ds).le (0 + 256 * cs.length + 256 * ds.length)) := hle
  have HG : Hid ((ann inact (fun _ => 131073) SV (ann up (fun s => asN s.st) SV S0 cs) ds).Good) := hgood
  have HC : Hid ((∀ c ∈ cs, c < n) ∧ ∀ c ∈ ds, c < n) := ⟨hcs, hdd⟩
  subst hcv
  subst hsv
  clear hF1 hob1 hob hrow hrow2 hq hle hgood hcs hdd
  go_wp2_with fail
  refine (announce_any B sg n gm cl es SV HO.out A M af (.slice ca cs.length cc) (.slice sa ds.length sc) cs ds HC.out.1 hcl HC.out.2 hdl S0 0 hle0 (by omega) w1 (HB.out.fr HF1.out (by simp) (by simp) (by simp) (by simp) (by simp) (by simp) (by simp)) (HE.out.fr (HF1.out.none (T := [])) (by simp) (by simp) (by simp)) HR1.out HR2.out).mono ?_
  rintro e w2 ⟨rfl, hB2, hF2⟩
  have HF2 : Hid (Fr B TB w w2) := HF1.out.none.trans hF2
  obtain ⟨pv, bv, mp, hB3⟩ := hB2
  obtain ⟨ov, ev, hE3⟩ := HX.out.fr HF2.out (by decide) (by decide) (by decide) (by decide)
  have HQ2 : Hid (w2.rowIs (B + 2) 35 4 (fun i => ptr (asb B i))) := HF2.out.row HQ.out (by decide)
  generalize ann inact (fun _ => 131073) SV (ann up (fun s => asN s.st) SV S0 cs) ds = S at *
  have HB3 : Hid (Bx B S pv bv mp w2) := hB3
  have HE3 : Hid (Ex B X Od S ov ev w2) := hE3
  obtain ⟨oa, oc', hov, _⟩ := own_shape hE3.od
  obtain ⟨pa, pc, hpv, _⟩ := own_shape hB3.pend
  have co := hE3.oc.cell (i := 0) (by omega)
  have cb := hB3.box.cell (i := 0) (by omega)
  rw [hov] at co
  rw [hpv] at cb
  have HL : Hid ((∀ j, (S.ex j).length ≤ 1000000) ∧ S.od.length ≤ 1000000) := ⟨fun j => by have := HLe.out.1 j; omega, by have := HLe.out.2; omega⟩
  clear hF2 hB3 hE3 hov hpv p0 p1 p2 p3 p4 HR1 HR2
  go_wp2_with fail
  go_quiet (fail)
  go_wp2_with fail
  rename_i K1 hK1
  refine loop10 B X Od S HG.out.od HL.out.2 pv ov bv ev mp _ (HB3.out.fr ((Fr.refl 0 [] w2).drewN _) (by simp) (by simp) (by simp) (by simp) (by simp) (by simp) (by simp)) (HE3.out.fr ((Fr.refl 0 [] w2).drewN _) (by simp) (by simp) (by simp) (by simp)) (((Fr.refl 0 [] w2).drewN _).row HQ2.out (by simp)) _ ⟨rfl, rfl, rfl, rfl, rfl, rfl, rfl⟩ ?_
  rintro f2 c ⟨hsz, hds, e8, e10, e22, e23, e40⟩
  obtain ⟨g2, hg2⟩ : ∃ g2 : Nat → Value, ∀ t, f2.tmps[t]?.getD undef = g2 t := ⟨_, fun _ => rfl⟩
  rw [hg2] at e8 e10 e22 e23 e40
  rw [lit368 f2 g2 hg2 hsz hds, e8, e10, e22, e23, e40]
  clear hg2 hsz hds e8 e10 e22 e23 e40
  refine hK1 _ _ ?_
  clear hK1 co cb
  go_wp2_with fail
  rename_i K2 hK2
  refine loop11 B X Od S (fun j _ => HG.out.ex j) HL.out.1 pv ov bv ev mp _ (HB3.out.fr (((Fr.refl 0 [] w2).drewN _).drewN _) (by simp) (by simp) (by simp) (by simp) (by simp) (by simp) (by simp)) (HE3.out.fr (((Fr.refl 0 [] w2).drewN _).drewN _) (by simp) (by simp) (by simp) (by simp)) ((((Fr.refl 0 [] w2).drewN _).drewN _).row HQ2.out (by simp)) _ ⟨rfl, rfl, rfl, rfl, rfl, rfl, rfl⟩ ?_
  rintro f3 w4 ⟨hsz, hds, e8, e10, e22, e23, e41⟩ hF4
  obtain ⟨g3, hg3⟩ : ∃ g3 : Nat → Value, ∀ t, f3.tmps[t]?.getD undef = g3 t := ⟨_, fun _ => rfl⟩
  rw [hg3] at e8 e10 e22 e23 e41
  rw [lit368 f3 g3 hg3 hsz hds, e8, e10, e22, e23, e41]
  clear hg3 hsz hds e8 e10 e22 e23 e41
  have HF4 : Hid (Fr B TB w w4) := HF2.out.trans ((((Fr.refl 0 [] w2).drewN _).drewN _).trans hF4).none
  clear hF4
  refine hK2 _ _ ?_
  clear hK2
  go_wp2_with fail
  exact HR.out _ _ rfl rfl rfl HF4.out
end Go.Proofs.YbulkbndkDoor.Pr
