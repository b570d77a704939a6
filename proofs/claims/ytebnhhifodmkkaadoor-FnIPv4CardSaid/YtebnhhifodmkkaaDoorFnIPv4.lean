/-
  Go's package net: the statement FnIPv4, proved: for every input the Go function returns true and leaves its arguments as they were; the package-level variables that it reads start as the program's text lays them (the card ties them).
-/
import Derived.Test.YtebnhhifodmkkaaDoorRows
import Derived.Test.YtebnhhifodmkkaaDoorFrame
import Derived.Test.YtebnhhifodmkkaaDoorWIPv4
import Derived.Test.YtebnhhifodmkkaaDoorDoor
namespace Go.Proofs.YtebnhhifodmkkaaDoor
open Go.ChangeShapes Go.WideShapes Go.ChangeAt Go.RowKit
open Go.ChangeMaps (open_string shut_string)
set_option linter.unusedVariables false

theorem fnIPv4_reads (os : Os) {H : Type} (enc : TypeId × Value → H) : ∃ places, DataW.whole enc Tryd.prog ((laidWorld os).forCall (fun _ _ => 0) ⟨#[], #[.int .u8 0, .int .u8 0, .int .u8 0, .int .u8 0], []⟩).memory Tryd.f5.params.toList Rows.fnIPv4Spec.vars false (#[.int .u8 0, .int .u8 0, .int .u8 0, .int .u8 0] : Array Value).toList 8 = some ([.lit (.int .u8 0), .lit (.int .u8 0), .lit (.int .u8 0), .lit (.int .u8 0)], [], places) :=
  ⟨[], by kernel_rfl⟩

set_option maxRecDepth 100000 in
theorem fnIPv4_lifted (os : Os) (started : os.Started) (H : Type) (enc : TypeId × Value → H) (F : Stop.Interp) :
    ReturnsInHanded {} Tryd.checked os 5 .any ((OpenSpec.ofChange Rows.fnIPv4Spec).preRow enc Tryd.prog Tryd.f5 Rows.fnIPv4Row.domain false Rows.fnIPv4Row.laid) (((OpenSpec.ofChange Rows.fnIPv4Spec).at F).post enc Tryd.prog Tryd.f5 false true false false) := by
  obtain ⟨places, hx⟩ := fnIPv4_reads os enc
  refine returnsInHanded_of_row (C := Tryd.checked) (s := OpenSpec.ofChange Rows.fnIPv4Spec) own started (by kernel_rfl) Tryd.func5
    (witness_row_atRef (enc := enc) (C := Tryd.checked) false (laidWorld os) #[.int .u8 0, .int .u8 0, .int .u8 0, .int .u8 0] rfl (by kernel_rfl) (by kernel_rfl) (by kernel_rfl)
      (OpenSpec.preRow_of_cond 8 hx (by kernel_rfl) (fun k hk => by cases hk) (by kernel_rfl) (laid_met_v4 os _))) ?_
  intro W base args ds gs before hval0 hW hcnd hcond hsz0 hL _ _
  have hval : ∀ (j : Nat) t v, Tryd.f5.params[j]? = some t → args[j]? = some v → Value.okWide Tryd.prog W .any base t v := hval0
  have hsz : (DataW.weightsEach Tryd.prog (Tryd.f5.params.toList ++ (OpenSpec.ofChange Rows.fnIPv4Spec).bare.plain.varTypes Tryd.prog) (ds ++ gs)).all (· ≤ reachBytes) = true := hsz0
  have hW' := hW
  obtain ⟨p, q, hA0, hV, rfl, hfz, hnd⟩ := hW
  have hA : DataW.TrodAll enc Tryd.prog W 0 (fun _ => true) true Tryd.f5.params.toList args.toList ds p := hA0
  rw [Tryd.params5] at hA hval hsz
  obtain ⟨v0, vs0, d0, ds0, p0, q0, hargs, rfl, rfl, h0, r0⟩ := trodAll_cons hA
  obtain ⟨v1, vs1, d1, ds1, p1, q1, rfl, rfl, rfl, h1, r1⟩ := trodAll_cons r0
  obtain ⟨v2, vs2, d2, ds2, p2, q2, rfl, rfl, rfl, h2, r2⟩ := trodAll_cons r1
  obtain ⟨v3, vs3, d3, ds3, p3, q3, rfl, rfl, rfl, h3, r3⟩ := trodAll_cons r2
  obtain ⟨rfl, rfl, rfl⟩ := trodAll_nil r3
  obtain rfl : args = #[v0, v1, v2, v3] := by cases args; simp_all
  obtain ⟨rfl, rfl⟩ := trodVars_none hV
  obtain ⟨i0, rfl, rfl, rfl, wf0⟩ := open_int Tryd.underlying5 (hval 0 5 v0 rfl rfl) h0
  obtain ⟨i1, rfl, rfl, rfl, wf1⟩ := open_int Tryd.underlying5 (hval 1 5 v1 rfl rfl) h1
  obtain ⟨i2, rfl, rfl, rfl, wf2⟩ := open_int Tryd.underlying5 (hval 2 5 v2 rfl rfl) h2
  obtain ⟨i3, rfl, rfl, rfl, wf3⟩ := open_int Tryd.underlying5 (hval 3 5 v3 rfl rfl) h3
  have hvars := facts_v4 (show laidMet Tryd.prog Rows.fnIPv4Row.laid W from hL)
  clear hA0 hval0
  refine (walk_FnIPv4 i0 i1 i2 i3 W wf0 wf1 wf2 wf3 hvars).mono fun e W' ⟨he, bel⟩ => ?_
  subst he
  exact ⟨_, rfl, _, _, _, [], _, [], hW', trodAll_mk1 (shut_bool Tryd.underlying4 _), (trodAll_cons_mk (shut_int Tryd.underlying5 wf0) (trodAll_cons_mk (shut_int Tryd.underlying5 wf1) (trodAll_cons_mk (shut_int Tryd.underlying5 wf2) (trodAll_cons_mk (shut_int Tryd.underlying5 wf3) trodAll_mk0)))), rfl, bel.frame _, fun h => by cases h⟩

theorem fnIPv4_row : Rows.FnIPv4Said :=
  OpenClaim.holds_of_cond 5 Tryd.f5 rfl rfl rfl rfl rfl rfl rfl ⟨rfl, rfl, rfl, rfl, rfl⟩ rfl rfl rfl rfl rfl (by kernel_rfl) Tryd.func5 (by kernel_rfl)
    (of_decide_eq_true (by kernel_rfl)) (by unfold Func.isWrapper; first | (rw [if_pos (by decide +kernel)]; kernel_rfl) | (rw [if_neg (by decide +kernel)]; exact ⟨rfl, rfl⟩))
    (fun os started H enc _ F => by rw [OpenClaim.pre_eq_preRow]; exact fnIPv4_lifted os started H enc F)

theorem fnIPv4_plain (f : FuncId) (fn : Func) (hf : Tryd.pinned.checked.prog.funcNamed "lib-milestone/laws.FnIPv4" = some f) (hfn : Tryd.pinned.checked.prog.funcs[f]? = some fn) :
    false = Tryd.pinned.checked.prog.looks [] ∧ ∀ (j : Nat) t, fn.params[j]? = some t → Tryd.pinned.checked.prog.wantsStandIn t = false := by
  obtain rfl : f = 5 := Option.some.inj ((show Tryd.prog.funcNamed "lib-milestone/laws.FnIPv4" = some 5 by kernel_rfl).symm.trans hf) |>.symm
  obtain rfl : fn = Tryd.f5 := (Option.some.inj (Tryd.func5.symm.trans hfn)).symm
  refine ⟨by kernel_rfl, fun j t ht => ?_⟩
  rw [Tryd.params5] at ht
  have hm := Array.mem_of_getElem? ht
  simp at hm
  subst hm
  exact (show Tryd.prog.wantsStandIn 5 = false by kernel_rfl)

theorem fnIPv4_holds : Rows.FnIPv4CardSaid :=
  Claim7.holds_tied_plain_at .later [] _ _ _ _ fnIPv4_row (fun _ h => by cases h) (by kernel_rfl) (fun _ h => by cases h) fnIPv4_row_tie rfl ⟨rfl, rfl⟩ (by kernel_rfl) rfl fnIPv4_plain (by kernel_rfl)
#print axioms fnIPv4_holds
end Go.Proofs.YtebnhhifodmkkaaDoor
