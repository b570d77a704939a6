/-
  Go's package net: the statement FnRoadsContain, proved: for every input the Go function returns true and leaves its arguments as they were; the package-level variables that it reads start as the program's text lays them (the card ties them).
-/
import Derived.Test.YtjepkkfpgmgnjaaDoorRows
import Derived.Test.YtjepkkfpgmgnjaaDoorFrame
import Derived.Test.YtjepkkfpgmgnjaaDoorWRoadsC
import Derived.Test.YtjepkkfpgmgnjaaDoorDoorZV
namespace Go.Proofs.YtjepkkfpgmgnjaaDoor
open Go.ChangeShapes Go.WideShapes Go.ChangeAt Go.RowKit
open Go.ChangeMaps (open_string shut_string)
set_option linter.unusedVariables false

theorem fnRoadsContain_reads (os : Os) {H : Type} (enc : TypeId × Value → H) : ∃ places, DataW.whole enc Tryd.prog ((laidWorldV os).forCall (fun _ _ => 0) ⟨#[], #[.slice none 0 0, .int .i64 0, .slice none 0 0], []⟩).memory Tryd.f4.params.toList Rows.fnRoadsContainSpec.vars false (#[.slice none 0 0, .int .i64 0, .slice none 0 0] : Array Value).toList 8 = some ([.nil, .lit (.int .i64 0), .nil], [], places) :=
  ⟨[], by kernel_rfl⟩

set_option maxRecDepth 100000 in
theorem fnRoadsContain_lifted (os : Os) (started : os.Started) (H : Type) (enc : TypeId × Value → H) (F : Stop.Interp) :
    ReturnsInHanded {} Tryd.checked os 4 .any ((OpenSpec.ofChange Rows.fnRoadsContainSpec).preRow enc Tryd.prog Tryd.f4 Rows.fnRoadsContainRow.domain false Rows.fnRoadsContainRow.laid) (((OpenSpec.ofChange Rows.fnRoadsContainSpec).at F).post enc Tryd.prog Tryd.f4 false true false false) := by
  obtain ⟨places, hx⟩ := fnRoadsContain_reads os enc
  refine returnsInHanded_of_row (C := Tryd.checked) (s := OpenSpec.ofChange Rows.fnRoadsContainSpec) own started (by kernel_rfl) Tryd.func4
    (witness_row_atRef (enc := enc) (C := Tryd.checked) false (laidWorldV os) #[.slice none 0 0, .int .i64 0, .slice none 0 0] rfl (by kernel_rfl) (by kernel_rfl) (by kernel_rfl)
      (OpenSpec.preRow_of_cond 8 hx (by kernel_rfl) (fun k hk => by cases hk) (by kernel_rfl) (laid_met_zv os _))) ?_
  intro W base args ds gs before hval0 hW hcnd hcond hsz0 hL _ _
  have hval : ∀ (j : Nat) t v, Tryd.f4.params[j]? = some t → args[j]? = some v → Value.okWide Tryd.prog W .any base t v := hval0
  have hsz : (DataW.weightsEach Tryd.prog (Tryd.f4.params.toList ++ (OpenSpec.ofChange Rows.fnRoadsContainSpec).bare.plain.varTypes Tryd.prog) (ds ++ gs)).all (· ≤ reachBytes) = true := hsz0
  have hW' := hW
  obtain ⟨p, q, hA0, hV, rfl, hfz, hnd⟩ := hW
  have hA : DataW.TrodAll enc Tryd.prog W 0 (fun _ => true) true Tryd.f4.params.toList args.toList ds p := hA0
  rw [Tryd.params4] at hA hval hsz
  obtain ⟨v0, vs0, d0, ds0, p0, q0, hargs, rfl, rfl, h0, r0⟩ := trodAll_cons hA
  obtain ⟨v1, vs1, d1, ds1, p1, q1, rfl, rfl, rfl, h1, r1⟩ := trodAll_cons r0
  obtain ⟨v2, vs2, d2, ds2, p2, q2, rfl, rfl, rfl, h2, r2⟩ := trodAll_cons r1
  obtain ⟨rfl, rfl, rfl⟩ := trodAll_nil r2
  obtain rfl : args = #[v0, v1, v2] := by cases args; simp_all
  obtain ⟨rfl, rfl⟩ := trodVars_none hV
  have k0 := h0
  have lt0 : ∀ x ∈ p0, x.block < W.heap.size := by obtain ⟨m, hm⟩ := k0; exact DataW.trod_lt m _ _ _ hm
  obtain ⟨A0, n0, c0, x0, rfl, hn0, hc0, hs0, rd0, dd0⟩ := slice_in (j := 0) (hval 0 22 v0 rfl rfl) h0 hsz rfl rfl
  obtain ⟨i1, rfl, rfl, rfl, wf1⟩ := open_int Tryd.underlying3 (hval 1 3 v1 rfl rfl) h1
  have k2 := h2
  have lt2 : ∀ x ∈ p2, x.block < W.heap.size := by obtain ⟨m, hm⟩ := k2; exact DataW.trod_lt m _ _ _ hm
  obtain ⟨A2, n2, c2, x2, rfl, hn2, hc2, hs2, rd2, dd2⟩ := slice_in (j := 2) (hval 2 22 v2 rfl rfl) h2 hsz rfl rfl
  have hvars := facts_zv (show laidMet Tryd.prog Rows.fnRoadsContainRow.laid W from hL)
  clear hA0 hval0
  refine (walk_FnRoadsContain A0 n0 c0 x0 i1 A2 n2 c2 x2 W hn0 hc0 hs0 rd0 wf1 hn2 hc2 hs2 rd2 hvars).mono fun e W' ⟨he, bel⟩ => ?_
  subst he
  exact ⟨_, rfl, _, _, _, [], _, [], hW', trodAll_mk1 (shut_bool Tryd.underlying4 _), (trodAll_cons_mk (Below.trod laidOut (by kernel_rfl) (of_decide_eq_true (by kernel_rfl)) k0 bel lt0) (trodAll_cons_mk (shut_int Tryd.underlying3 wf1) (trodAll_cons_mk (Below.trod laidOut (by kernel_rfl) (of_decide_eq_true (by kernel_rfl)) k2 bel lt2) trodAll_mk0))), rfl, bel.frame _, fun h => by cases h⟩

theorem fnRoadsContain_row : Rows.FnRoadsContainSaid :=
  OpenClaim.holds_of_cond 4 Tryd.f4 rfl rfl rfl rfl rfl rfl rfl ⟨rfl, rfl, rfl, rfl, rfl⟩ rfl rfl rfl rfl rfl (by kernel_rfl) Tryd.func4 (by kernel_rfl)
    (of_decide_eq_true (by kernel_rfl)) (by unfold Func.isWrapper; first | (rw [if_pos (by decide +kernel)]; kernel_rfl) | (rw [if_neg (by decide +kernel)]; exact ⟨rfl, rfl⟩))
    (fun os started H enc _ F => by rw [OpenClaim.pre_eq_preRow]; exact fnRoadsContain_lifted os started H enc F)

theorem fnRoadsContain_plain (f : FuncId) (fn : Func) (hf : Tryd.pinned.checked.prog.funcNamed "lib-milestone/laws.FnRoadsContain" = some f) (hfn : Tryd.pinned.checked.prog.funcs[f]? = some fn) :
    false = Tryd.pinned.checked.prog.looks [] ∧ ∀ (j : Nat) t, fn.params[j]? = some t → Tryd.pinned.checked.prog.wantsStandIn t = false := by
  obtain rfl : f = 4 := Option.some.inj ((show Tryd.prog.funcNamed "lib-milestone/laws.FnRoadsContain" = some 4 by kernel_rfl).symm.trans hf) |>.symm
  obtain rfl : fn = Tryd.f4 := (Option.some.inj (Tryd.func4.symm.trans hfn)).symm
  refine ⟨by kernel_rfl, fun j t ht => ?_⟩
  rw [Tryd.params4] at ht
  have hm := Array.mem_of_getElem? ht
  simp at hm
  have hw : ∀ u ∈ ([22, 3] : List TypeId), Tryd.prog.wantsStandIn u = false := by
    intro u hu
    simp only [List.mem_cons, List.not_mem_nil, or_false] at hu
    rcases hu with rfl | rfl
    · exact (show Tryd.prog.wantsStandIn 22 = false by kernel_rfl)
    · exact (show Tryd.prog.wantsStandIn 3 = false by kernel_rfl)
  exact hw t (by first | (simp; omega) | (rcases hm with h | h | h <;> simp [h]))

theorem fnRoadsContain_holds : Rows.FnRoadsContainCardSaid :=
  Claim7.holds_tied_plain_at .later [] _ _ _ _ fnRoadsContain_row (fun _ h => by cases h) (by kernel_rfl) (fun _ h => by cases h) fnRoadsContain_row_tie rfl ⟨rfl, rfl⟩ (by kernel_rfl) rfl fnRoadsContain_plain (by kernel_rfl)
#print axioms fnRoadsContain_holds
end Go.Proofs.YtjepkkfpgmgnjaaDoor
