/- At every two strings and options the law FnPrWidthMember returns true: PrettyOptions writes an array that is the one member of an object on one line where that line fits, else by lines. No condition beyond those of the given statement. -/
import Derived.Test.YtnilbkfhfnofgaaRows
import Derived.Test.YtnilbkfhfnofgaaPFnPrWidthMemberx17
import Derived.Test.YtnilbkfhfnofgaaPureFnPrWidthMember
import Derived.WalkKit
import Derived.ProofKit
import Derived.OpenShut
import Derived.ShutString
import Derived.ChangeOld
import Derived.Below
import Derived.SizedLaws
import Derived.Lib.SmallJoins
namespace Go.Proofs.Ytnilbkfhfnofgaa.fnPrWidthMember
open Go.ChangeShapes Go.WideShapes Go.ChangeAt Go.RowKit
open Go.ChangeMaps (open_string shut_string)
open Go.Joins (open_agg4 shut_agg4)
set_option linter.unusedVariables false
theorem own : ownKnob Try.prog.godebug = none := by kernel_rfl

/-! ### a start that fits: the package variables, one by one -/
def zipOk (P : Program) : List Value → List TypeId → Bool
  | [], [] => true
  | v :: vs, u :: us => Cell.okB P u v && zipOk P vs us
  | _, _ => false
theorem zipOk_at {P : Program} : ∀ {vs : List Value} {us : List TypeId}, zipOk P vs us = true → vs.length = us.length ∧ ∀ (i : Nat) (v : Value) (u : TypeId), vs[i]? = some v → us[i]? = some u → Cell.okB P u v = true
  | [], [], _ => ⟨rfl, fun i v u h => by simp at h⟩
  | v :: vs, u :: us, h => by
    simp only [zipOk, Bool.and_eq_true] at h
    obtain ⟨h1, h2⟩ := zipOk_at h.2
    refine ⟨by simp [h1], fun i v' u' hv hu => ?_⟩
    cases i with
    | zero => simp at hv hu; subst hv; subst hu; exact h.1
    | succ i => exact h2 i v' u' (by simpa using hv) (by simpa using hu)
theorem okB_zip {P : Program} {t : TypeId} {cs : Array Value} {ts : List TypeId} (h : P.cellTypes P.depth t = some ts) (hz : zipOk P cs.toList ts = true) : Row.okB P t cs = true := by
  obtain ⟨h1, h2⟩ := zipOk_at hz
  have hl : cs.size = ts.length := by simpa using h1
  unfold Row.okB
  rw [h]
  simp only [Bool.and_eq_true, beq_iff_eq, List.all_eq_true, List.mem_range]
  refine ⟨by rw [hl]; exact Nat.mod_self _, fun i hi => ?_⟩
  have hm : i % ts.length = i := Nat.mod_eq_of_lt (by omega)
  have e1 : cs[i]? = some cs[i] := Array.getElem?_eq_getElem hi
  have e2 : ts[i]? = some (ts[i]'(by omega)) := List.getElem?_eq_getElem (by omega)
  rw [hm, e1, e2]
  exact h2 i _ _ (by rw [Array.getElem?_toList]; exact e1) e2
noncomputable def W0 (os : Os) : World := World.plainHolding Try.prog os ⟨#[], #[.string ByteArray.empty, .string ByteArray.empty, .agg #[.int .i64 0, .string ByteArray.empty, .string ByteArray.empty, .bool false]], []⟩
noncomputable def vb (os : Os) (g : Nat) : Bool :=
  match ((begin Try.prog (fun _ _ => 0) default).world.heap[g]?).bind Obj.row? with
  | none => true
  | some (zero, t) =>
    match (W0 os).heap[g]? with
    | some (.cells cs t' frozen) => decide (t' = t) && decide (frozen = (0, 0)) && cs.size == zero.size && (!Try.prog.buildable t || Row.okB Try.prog t cs)
    | _ => false
set_option maxRecDepth 100000 in
theorem vb0 (os : Os) : vb os 0 = true := by kernel_rfl
set_option maxRecDepth 100000 in
theorem vb1 (os : Os) : vb os 1 = true := by kernel_rfl
set_option maxRecDepth 100000 in
theorem vb2 (os : Os) : vb os 2 = true := by kernel_rfl
set_option maxRecDepth 100000 in
theorem vb3 (os : Os) : vb os 3 = true := by kernel_rfl
set_option maxRecDepth 100000 in
theorem vb4 (os : Os) : vb os 4 = true := by kernel_rfl
set_option maxRecDepth 100000 in
theorem vb5 (os : Os) : vb os 5 = true := by kernel_rfl
set_option maxRecDepth 100000 in
theorem vb6 (os : Os) : vb os 6 = true := by kernel_rfl
set_option maxRecDepth 100000 in
theorem vb7 (os : Os) : vb os 7 = true := by kernel_rfl
set_option maxRecDepth 100000 in
theorem vb8 (os : Os) : vb os 8 = true := by kernel_rfl
set_option maxRecDepth 100000 in
theorem vb9 (os : Os) : vb os 9 = true := by kernel_rfl
set_option maxRecDepth 100000 in
theorem vb11 (os : Os) : vb os 11 = true := by kernel_rfl
set_option maxRecDepth 100000 in
theorem vb12 (os : Os) : vb os 12 = true := by kernel_rfl
set_option maxRecDepth 100000 in
theorem vb13 (os : Os) : vb os 13 = true := by kernel_rfl
set_option maxRecDepth 100000 in
theorem vb14 (os : Os) : vb os 14 = true := by kernel_rfl

noncomputable def zero10 : Array Value := match ((begin Try.prog (fun _ _ => 0) default).world.heap[10]?).bind Obj.row? with | some (z, _) => z | none => #[]
noncomputable def t10 : TypeId := match ((begin Try.prog (fun _ _ => 0) default).world.heap[10]?).bind Obj.row? with | some (_, t) => t | none => 0
noncomputable def cs10 (os : Os) : Array Value := match (W0 os).heap[10]? with | some (Obj.cells cs _ _) => cs | _ => #[]
noncomputable def ts10 : List TypeId := match Try.prog.cellTypes Try.prog.depth t10 with | some ts => ts | none => []
set_option maxRecDepth 100000 in
theorem e10a : ((begin Try.prog (fun _ _ => 0) default).world.heap[10]?).bind Obj.row? = some (zero10, t10) := by kernel_rfl
set_option maxRecDepth 100000 in
theorem e10b (os : Os) : (W0 os).heap[10]? = some (.cells (cs10 os) t10 (0, 0)) := by kernel_rfl
set_option maxRecDepth 100000 in
theorem e10c (os : Os) : ((cs10 os).size == zero10.size) = true := by kernel_rfl
set_option maxRecDepth 100000 in
theorem e10d : Try.prog.cellTypes Try.prog.depth t10 = some ts10 := by kernel_rfl
set_option maxRecDepth 100000 in
theorem e10e (os : Os) : zipOk Try.prog (cs10 os).toList ts10 = true := by kernel_rfl
theorem vb10 (os : Os) : vb os 10 = true := by
  unfold vb
  rw [e10a, e10b]
  simp only [e10c, okB_zip e10d (e10e os)]
  simp
set_option maxRecDepth 100000 in
theorem gsize : Try.prog.globals.size = 15 := by kernel_rfl
theorem wit1 (os : Os) : (World.plainHolding Try.prog os ⟨#[], #[.string ByteArray.empty, .string ByteArray.empty, .agg #[.int .i64 0, .string ByteArray.empty, .string ByteArray.empty, .bool false]], []⟩).variablesB Try.prog = true := by
  unfold World.variablesB
  rw [gsize]
  rw [List.all_eq_true]
  intro g hg
  rw [List.mem_range] at hg
  show vb os g = true
  match g, hg with
  | 0, _ => exact vb0 os
  | 1, _ => exact vb1 os
  | 2, _ => exact vb2 os
  | 3, _ => exact vb3 os
  | 4, _ => exact vb4 os
  | 5, _ => exact vb5 os
  | 6, _ => exact vb6 os
  | 7, _ => exact vb7 os
  | 8, _ => exact vb8 os
  | 9, _ => exact vb9 os
  | 10, _ => exact vb10 os
  | 11, _ => exact vb11 os
  | 12, _ => exact vb12 os
  | 13, _ => exact vb13 os
  | 14, _ => exact vb14 os
  | g + 15, h => omega
theorem cells23 : Try.prog.cellsOf 23 = 4 := by kernel_rfl
theorem walk (P : Pure.Stated) (a0 a1 : ByteArray) (a2_0 : Int) (a2_1 a2_2 : ByteArray) (a2_3 : Bool) (w : World) :
    Calls Try.prog 3 #[.string a0, .string a1, .agg #[.int .i64 a2_0, .string a2_1, .string a2_2, .bool a2_3]] w fun e w' => e = .returned (.bool true) ∧ Below w.heap.size w w' := by
  obtain ⟨k, h⟩ := P a0 a1 a2_0 a2_1 a2_2 a2_3
  refine (PFnPrWidthMember.lFn.calls k a0 a1 a2_0 a2_1 a2_2 a2_3 true w h).mono ?_
  rintro e w' ⟨rfl, hd⟩
  exact ⟨rfl, hd⟩
set_option maxRecDepth 100000 in
theorem lifted (os : Os) (started : os.Started) (H : Type) (enc : TypeId × Value → H) :
    ReturnsInHanded {} Try.checked os 3 .any (Rows.fnPrWidthMemberSpec.pre6 enc Try.prog Try.f3 Rows.fnPrWidthMemberRow.domain false) (Rows.fnPrWidthMemberSpec.post enc Try.prog Try.f3 false true false false) := by
  refine returnsInHanded_of_change_sized (C := Try.checked) own started (by kernel_rfl) Try.func3
    (ChangeSpec.witness6 (enc := enc) (C := Try.checked) false ⟨#[], #[.string ByteArray.empty, .string ByteArray.empty, .agg #[.int .i64 0, .string ByteArray.empty, .string ByteArray.empty, .bool false]], []⟩ 8 (wit1 os) (by kernel_rfl) (by kernel_rfl) (by kernel_rfl)) ?_
  intro W base args ds gs before hval0 hW hcnd hsz0 _
  have hsz : (DataW.weightsEach Try.prog (Try.f3.params.toList ++ Rows.fnPrWidthMemberSpec.plain.varTypes Try.prog) (ds ++ gs)).all (· ≤ reachBytes) = true := hsz0
  have hval : ∀ (j : Nat) t v, Try.f3.params[j]? = some t → args[j]? = some v → Value.okWide Try.prog W .any base t v := hval0
  have hW' := hW
  obtain ⟨p, q, hA0, hV, rfl, hfz, hnd⟩ := hW
  have hA : DataW.TrodAll enc Try.prog W 0 (fun _ => true) true Try.f3.params.toList args.toList ds p := hA0
  rw [Try.params3] at hA hval hsz
  obtain ⟨v0, vs0, d0, ds0, p0, q0, hargs, rfl, rfl, h0, r0⟩ := trodAll_cons hA
  obtain ⟨v1, vs1, d1, ds1, p1, q1, rfl, rfl, rfl, h1, r1⟩ := trodAll_cons r0
  obtain ⟨v2, vs2, d2, ds2, p2, q2, rfl, rfl, rfl, h2, r2⟩ := trodAll_cons r1
  obtain ⟨rfl, rfl, rfl⟩ := trodAll_nil r2
  obtain rfl : args = #[v0, v1, v2] := by cases args; simp_all
  obtain ⟨rfl, rfl⟩ := trodVars_none hV
  obtain ⟨a0, rfl, rfl, rfl, y0⟩ := open_string Try.underlying9 (hval 0 9 v0 rfl rfl) h0
  obtain ⟨a1, rfl, rfl, rfl, y1⟩ := open_string Try.underlying9 (hval 1 9 v1 rfl rfl) h1
  obtain ⟨c0, c1, c2, c3, f0, f1, f2, f3, m, rfl, rfl, rfl, g0, g1, g2, g3⟩ := open_agg4 Try.underlying23 (by kernel_rfl) cells23 (hval 2 23 v2 rfl rfl) h2
  obtain ⟨b0, e0, rfl, z0⟩ := DataW.trod_int Try.underlying3 g0
  obtain ⟨b1, e1, rfl, z1⟩ := DataW.trod_string Try.underlying9 g1
  obtain ⟨b2, e2, rfl, z2⟩ := DataW.trod_string Try.underlying9 g2
  obtain ⟨b3, e3, rfl⟩ := DataW.trod_bool Try.underlying4 g3
  simp at e0 e1 e2 e3
  subst e0 e1 e2 e3
  clear hA0 hval0 hsz0 hsz
  have back : ∀ (W' : World) (sp : Nat → Bool), DataW.Trod enc Try.prog W' 0 sp true 23 (.agg #[.int .i64 b0, .string b1, .string b2, .bool b3]) (.agg [.lit (.int .i64 b0), .lit (.string b1.data.toList), .lit (.string b2.data.toList), .lit (.bool b3)]) [] := fun W' sp =>
    shut_agg4 (y0 := (.lit (.int .i64 b0), [])) (y1 := (.lit (.string b1.data.toList), [])) (y2 := (.lit (.string b2.data.toList), [])) (y3 := (.lit (.bool b3), [])) Try.underlying23 (by kernel_rfl) cells23 ⟨1, by simp [DataW.trod, Try.underlying3, z0]⟩ ⟨1, by simp [DataW.trod, Try.underlying9, z1]⟩ ⟨1, by simp [DataW.trod, Try.underlying9, z2]⟩ ⟨1, by simp [DataW.trod, Try.underlying4]⟩
  refine (walk Pure.FnPrWidthMember a0 a1 b0 b1 b2 b3 W).mono fun e W' ⟨he, bel⟩ => ?_
  subst he
  exact ⟨_, rfl, _, _, _, [], _, [], hW', trodAll_mk1 (shut_bool Try.underlying4 _), (trodAll_cons_mk (shut_string Try.underlying9 y0) (trodAll_cons_mk (shut_string Try.underlying9 y1) (trodAll_cons_mk (back _ _) trodAll_mk0))), rfl, bel.frame _, fun h => by cases h⟩
theorem over : Rows.fnPrWidthMemberRow.holds Try.pinned (OpenSpec.ofChange Rows.fnPrWidthMemberSpec) :=
  OpenClaim.holds_of_wide 3 Try.f3 rfl rfl rfl rfl rfl rfl rfl ⟨rfl, rfl, rfl, rfl, rfl⟩ rfl rfl rfl rfl rfl (by kernel_rfl) Try.func3 (by kernel_rfl)
    (of_decide_eq_true (by kernel_rfl)) (by unfold Func.isWrapper; first | (rw [if_pos (by decide +kernel)]; kernel_rfl) | (rw [if_neg (by decide +kernel)]; exact ⟨rfl, rfl⟩))
    (fun os started H enc _ => lifted os started H enc)
theorem proved : Rows.FnPrWidthMemberSaid := over
#print axioms proved
end Go.Proofs.Ytnilbkfhfnofgaa.fnPrWidthMember
namespace Go.Proofs.Ytnilbkfhfnofgaa
/-- The row, under a short name, for the claim. -/
theorem fnPrWidthMember_holds : Rows.FnPrWidthMemberSaid := fnPrWidthMember.proved
end Go.Proofs.Ytnilbkfhfnofgaa
