/-
  The walk of the statement FnKinds: it returns true and changes nothing that was there.
-/
import Derived.Test.YtebnhhifodmkkaaBegins
import Derived.Test.YtebnhhifodmkkaaValid
namespace Go.Proofs.Ytebnhhifodmkkaa
open Go.RowKit
set_option linter.unusedVariables false

set_option maxHeartbeats 400000 in
theorem walk_FnKinds (A : Option Addr) (n c : Nat) (xs : List UInt8) (w : World) (hn : xs.length = n) (hc : n ≤ c) (hs : c ≤ 140737488351232) (ha : Rd w A xs) :
    Calls Try.prog 7 #[.slice A n c] w fun e w' => e = .returned (.bool true) ∧ Below w.heap.size w w' := by
  have HN := Lib.hid hn
  by_cases v1 : n = 4 ∨ n = 16
  · have V1 := Lib.hid (show decide (n = 4 ∨ n = 16) = true by simpa using v1)
    have W1 := Lib.hid v1
    clear hn v1
    go_enter Try.func7, Try.ntmps7
    go_wp2_with fail
    refine (valid_any _ _ _ _ true V1.out).mono ?_
    rintro e w0 ⟨rfl, rfl⟩
    go_wp2_with fail
    refine (kindsOf_any _ _ _ xs _ HN.out hc (by exact ha) W1.out).mono ?_
    rintro e w1 ⟨rfl, hb1⟩
    go_wp2_with fail
    refine (implPr_any _ _ _ xs _ HN.out (by exact ha.below hb1) W1.out _ rfl).mono ?_
    rintro e w2 ⟨rfl, hb2⟩
    have hb12 := hb1.trans (hb2.mono hb1.size)
    go_wp2_with fail
    refine (implMc_any _ _ _ xs _ HN.out (by exact ha.below hb12) W1.out _ rfl).mono ?_
    rintro e w3 ⟨rfl, hb3⟩
    have hb13 := hb12.trans (hb3.mono hb12.size)
    go_wp2_with fail
    refine (implLl_any _ _ _ xs _ HN.out (by exact ha.below hb13) W1.out _ rfl).mono ?_
    rintro e w4 ⟨rfl, hb4⟩
    have hb14 := hb13.trans (hb4.mono hb13.size)
    generalize kindOf pr4 pr6 xs = p
    generalize kindOf mc4 mc6 xs = m
    generalize kindOf ll4 ll6 xs = l
    cases p <;> cases m <;> cases l
    all_goals
      go_wp2
      go_ret
      exact ⟨rfl, hb14⟩
  · have V1 := Lib.hid (show decide (n = 4 ∨ n = 16) = false by simpa using v1)
    clear hn v1
    go_enter Try.func7, Try.ntmps7
    go_wp2_with fail
    refine (valid_any _ _ _ _ false V1.out).mono ?_
    rintro e w0 ⟨rfl, rfl⟩
    go_wp2
    go_ret
    exact ⟨rfl, Below.refl _ _⟩
end Go.Proofs.Ytebnhhifodmkkaa
