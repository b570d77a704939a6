/-
  The walk of the law FnRoadsString. No condition.
-/
import Derived.Test.YtjepkkfpgmgnjaaDoorRoadStr
import Derived.Test.YtjepkkfpgmgnjaaDoorValid
namespace Go.Proofs.YtjepkkfpgmgnjaaDoor
open Go.RowKit
set_option linter.unusedVariables false

theorem walk_FnRoadsString (A : Option Addr) (n c : Nat) (xs : List UInt8) (w : World) (hn : xs.length = n) (hc : n ≤ c) (hs : c ≤ 140737488351232) (ha : Rd w A xs) (hvars : ∃ p4 p6, ZF w p4 p6) :
    Calls Tryd.prog 10 #[.slice A n c] w fun e w' => e = .returned (.bool true) ∧ Below w.heap.size w w' := by
  obtain ⟨p4, p6, hz⟩ := hvars
  have HN := Lib.hid hn
  clear hn
  by_cases hv : n = 4 ∨ n = 16
  · have V := Lib.hid (show decide (n = 4 ∨ n = 16) = true by simpa using hv)
    have HV := Lib.hid hv
    clear hv
    go_enter Tryd.func10, Tryd.ntmps10
    go_wp2_with fail
    refine (valid_any _ _ _ _ true V.out).mono ?_
    rintro e w1 ⟨rfl, rfl⟩
    go_wp2_with fail
    refine (roadString_any _ _ _ xs p4 p6 _ hz HN.out HV.out (by exact ha)).mono ?_
    rintro e w0 ⟨rfl, hb0⟩
    go_wp2_with fail
    refine (implString_any _ _ _ xs p4 p6 _ (hz.below hb0) HN.out HV.out (by exact ha.below hb0)).mono ?_
    rintro e w1 ⟨rfl, hb1⟩
    go_wp2
    go_ret
    exact ⟨rfl, hb0.trans (hb1.mono hb0.size)⟩
  · have V := Lib.hid (show decide (n = 4 ∨ n = 16) = false by simpa using hv)
    clear hv
    go_enter Tryd.func10, Tryd.ntmps10
    go_wp2_with fail
    refine (valid_any _ _ _ _ false V.out).mono ?_
    rintro e w1 ⟨rfl, rfl⟩
    go_wp2
    go_ret
    exact ⟨rfl, Below.refl _ _⟩
end Go.Proofs.YtjepkkfpgmgnjaaDoor
