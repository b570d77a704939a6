/-
  Go's package net: the statement FnMACString in its second form, proved: for every input whose values and letters are at most 1048576 together the Go function returns true and leaves its arguments as they were.
-/
import Derived.Test.YtebnhhifodmkkaaRows
import Derived.Test.YtebnhhifodmkkaaFrame
import Derived.Test.YtebnhhifodmkkaaWMACString
import Derived.Test.YtebnhhifodmkkaaBulk
import Derived.Deep.CondSized
import Derived.JoinedCond
namespace Go.Proofs.Ytebnhhifodmkkaa
open Go.ChangeShapes Go.WideShapes Go.ChangeAt Go.RowKit
open Go.ChangeMaps (open_string shut_string)
set_option linter.unusedVariables false

set_option maxRecDepth 100000 in
theorem fnMACString_lifted (os : Os) (started : os.Started) (H : Type) (enc : TypeId × Value → H) (F : Stop.Interp) :
    ReturnsInHanded {} Try.checked os 5 .any ((Rows.OpenSpec.upto Rows.fnMACStringSpec).pre6 enc Try.prog Try.f5 Rows.fnMACStringUptoRow.domain false) (((Rows.OpenSpec.upto Rows.fnMACStringSpec).at F).post enc Try.prog Try.f5 false true false false) := by
  refine returnsInHanded_of_cond_sized (C := Try.checked) (s := Rows.OpenSpec.upto Rows.fnMACStringSpec) (k := Rows.uptoSmall) rfl own started (by kernel_rfl) Try.func5
    (OpenSpec.witness (enc := enc) (C := Try.checked) (s := Rows.OpenSpec.upto Rows.fnMACStringSpec) (k := Rows.uptoSmall) rfl false ⟨#[], #[.slice none 0 0], []⟩ 8 (by kernel_rfl) (by kernel_rfl) (by kernel_rfl) (x := ([.nil], [], [])) (by kernel_rfl) rfl (by kernel_rfl)) ?_
  intro W base args ds gs before hval0 hW hcnd hk hsz0 _
  have hval : ∀ (j : Nat) t v, Try.f5.params[j]? = some t → args[j]? = some v → Value.okWide Try.prog W .any base t v := hval0
  have hsz : (DataW.weightsEach Try.prog (Try.f5.params.toList ++ (Rows.OpenSpec.upto Rows.fnMACStringSpec).bare.plain.varTypes Try.prog) (ds ++ gs)).all (· ≤ reachBytes) = true := hsz0
  have hW' := hW
  obtain ⟨p, q, hA0, hV, rfl, hfz, hnd⟩ := hW
  have hA : DataW.TrodAll enc Try.prog W 0 (fun _ => true) true Try.f5.params.toList args.toList ds p := hA0
  rw [Try.params5] at hA hval hsz
  obtain ⟨v0, vs0, d0, ds0, p0, q0, hargs, rfl, rfl, h0, r0⟩ := trodAll_cons hA
  obtain ⟨rfl, rfl, rfl⟩ := trodAll_nil r0
  obtain rfl : args = #[v0] := by cases args; simp_all
  obtain ⟨rfl, rfl⟩ := trodVars_none hV
  have k0 := h0
  have lt0 : ∀ x ∈ p0, x.block < W.heap.size := by obtain ⟨m, hm⟩ := k0; exact DataW.trod_lt m _ _ _ hm
  obtain ⟨A0, n0, c0, x0, rfl, hn0, hc0, hs0, rd0, dd0⟩ := slice_in (j := 0) (hval 0 24 v0 rfl rfl) h0 hsz rfl rfl
  have hbk : Rows.uptoBulkAll [d0] ≤ 1048576 := of_decide_eq_true hk
  simp only [Rows.uptoBulkAll] at hbk
  have sm0 : n0 ≤ 1048576 := by have h := bulk_slice dd0; omega
  clear hA0 hval0
  refine (walk_FnMACString A0 n0 c0 x0 W hn0 hc0 hs0 rd0 sm0).mono fun e W' ⟨he, bel⟩ => ?_
  subst he
  exact ⟨_, rfl, _, _, _, [], _, [], hW', trodAll_mk1 (shut_bool Try.underlying4 _), (trodAll_cons_mk (Below.trod laidOut (by kernel_rfl) (of_decide_eq_true (by kernel_rfl)) k0 bel lt0) trodAll_mk0), rfl, bel.frame _, fun h => by cases h⟩

theorem fnMACString_holds : Rows.FnMACStringUptoSaid :=
  OpenClaim.holds_of_cond 5 Try.f5 rfl rfl rfl rfl rfl rfl rfl ⟨rfl, rfl, rfl, rfl, rfl⟩ rfl rfl rfl rfl rfl (by kernel_rfl) Try.func5 (by kernel_rfl)
    (of_decide_eq_true (by kernel_rfl)) (by unfold Func.isWrapper; first | (rw [if_pos (by decide +kernel)]; kernel_rfl) | (rw [if_neg (by decide +kernel)]; exact ⟨rfl, rfl⟩))
    (fun os started H enc _ F => fnMACString_lifted os started H enc F)
#print axioms fnMACString_holds
end Go.Proofs.Ytebnhhifodmkkaa
