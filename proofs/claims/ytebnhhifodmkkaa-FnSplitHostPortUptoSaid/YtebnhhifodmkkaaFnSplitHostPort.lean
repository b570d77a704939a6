/-
  Go's package net: the statement FnSplitHostPort in its second form, proved: for every input whose values and letters are at most 1048576 together the Go function returns true and leaves its arguments as they were.
-/
import Derived.Test.YtebnhhifodmkkaaRows
import Derived.Test.YtebnhhifodmkkaaFrame
import Derived.Test.YtebnhhifodmkkaaWSplitHP
import Derived.Test.YtebnhhifodmkkaaBulk
import Derived.Deep.CondSized
import Derived.JoinedCond
namespace Go.Proofs.Ytebnhhifodmkkaa
open Go.ChangeShapes Go.WideShapes Go.ChangeAt Go.RowKit
open Go.ChangeMaps (open_string shut_string)
set_option linter.unusedVariables false

set_option maxRecDepth 100000 in
theorem fnSplitHostPort_lifted (os : Os) (started : os.Started) (H : Type) (enc : TypeId × Value → H) (F : Stop.Interp) :
    ReturnsInHanded {} Try.checked os 8 .any ((Rows.OpenSpec.upto Rows.fnSplitHostPortSpec).pre6 enc Try.prog Try.f8 Rows.fnSplitHostPortUptoRow.domain false) (((Rows.OpenSpec.upto Rows.fnSplitHostPortSpec).at F).post enc Try.prog Try.f8 false true false false) := by
  refine returnsInHanded_of_cond_sized (C := Try.checked) (s := Rows.OpenSpec.upto Rows.fnSplitHostPortSpec) (k := Rows.uptoSmall) rfl own started (by kernel_rfl) Try.func8
    (OpenSpec.witness (enc := enc) (C := Try.checked) (s := Rows.OpenSpec.upto Rows.fnSplitHostPortSpec) (k := Rows.uptoSmall) rfl false ⟨#[], #[.string ⟨#[]⟩], []⟩ 8 (by kernel_rfl) (by kernel_rfl) (by kernel_rfl) (x := ([.lit (.string [])], [], [])) (by kernel_rfl) rfl (by kernel_rfl)) ?_
  intro W base args ds gs before hval0 hW hcnd hk hsz0 _
  have hval : ∀ (j : Nat) t v, Try.f8.params[j]? = some t → args[j]? = some v → Value.okWide Try.prog W .any base t v := hval0
  have hsz : (DataW.weightsEach Try.prog (Try.f8.params.toList ++ (Rows.OpenSpec.upto Rows.fnSplitHostPortSpec).bare.plain.varTypes Try.prog) (ds ++ gs)).all (· ≤ reachBytes) = true := hsz0
  have hW' := hW
  obtain ⟨p, q, hA0, hV, rfl, hfz, hnd⟩ := hW
  have hA : DataW.TrodAll enc Try.prog W 0 (fun _ => true) true Try.f8.params.toList args.toList ds p := hA0
  rw [Try.params8] at hA hval hsz
  obtain ⟨v0, vs0, d0, ds0, p0, q0, hargs, rfl, rfl, h0, r0⟩ := trodAll_cons hA
  obtain ⟨rfl, rfl, rfl⟩ := trodAll_nil r0
  obtain rfl : args = #[v0] := by cases args; simp_all
  obtain ⟨rfl, rfl⟩ := trodVars_none hV
  obtain ⟨s0, rfl, rfl, rfl, hs0⟩ := open_string Try.underlying9 (hval 0 9 v0 rfl rfl) h0
  have hz0 : s0.size ≤ 140737488351232 := by have h := sized_string hsz (j := 0) (t := 9) rfl rfl; simpa [reachBytes] using h
  have hbk : Rows.uptoBulkAll [.lit (.string s0.data.toList)] ≤ 1048576 := of_decide_eq_true hk
  simp only [Rows.uptoBulkAll] at hbk
  have sm0 : s0.size ≤ 1048576 := by have h := bulk_string (H := H) s0; omega
  clear hA0 hval0
  refine (walk_FnSplitHostPort s0 W hz0 sm0).mono fun e W' ⟨he, bel⟩ => ?_
  subst he
  exact ⟨_, rfl, _, _, _, [], _, [], hW', trodAll_mk1 (shut_bool Try.underlying4 _), (trodAll_cons_mk (shut_string Try.underlying9 hs0) trodAll_mk0), rfl, bel.frame _, fun h => by cases h⟩

theorem fnSplitHostPort_holds : Rows.FnSplitHostPortUptoSaid :=
  OpenClaim.holds_of_cond 8 Try.f8 rfl rfl rfl rfl rfl rfl rfl ⟨rfl, rfl, rfl, rfl, rfl⟩ rfl rfl rfl rfl rfl (by kernel_rfl) Try.func8 (by kernel_rfl)
    (of_decide_eq_true (by kernel_rfl)) (by unfold Func.isWrapper; first | (rw [if_pos (by decide +kernel)]; kernel_rfl) | (rw [if_neg (by decide +kernel)]; exact ⟨rfl, rfl⟩))
    (fun os started H enc _ F => fnSplitHostPort_lifted os started H enc F)
#print axioms fnSplitHostPort_holds
end Go.Proofs.Ytebnhhifodmkkaa
