/-
  The walk of the law FnStringAll. No condition.
-/
import Derived.Test.YtjepkkfpgmgnjaaDoorSpecStr
import Derived.Test.YtjepkkfpgmgnjaaDoorValid
namespace Go.Proofs.YtjepkkfpgmgnjaaDoor
open Go.RowKit
set_option linter.unusedVariables false

theorem walk_FnStringAll (A : Option Addr) (n c : Nat) (xs : List UInt8) (w : World) (hn : xs.length = n) (hc : n ≤ c) (hs : c ≤ 140737488351232) (ha : Rd w A xs) (hvars : ∃ p4 p6, ZF w p4 p6) :
    Calls Tryd.prog 7 #[.slice A n c] w fun e w' => e = .returned (.bool true) ∧ Below w.heap.size w w' := by
  obtain ⟨p4, p6, hz⟩ := hvars
  have HN := Lib.hid hn
  clear hn
  by_cases hv : n = 4 ∨ n = 16
  · have V := Lib.hid (show decide (n = 4 ∨ n = 16) = true by simpa using hv)
    have HV := Lib.hid hv
    clear hv
    go_enter Tryd.func7, Tryd.ntmps7
    go_wp2_with fail
    refine (valid_any _ _ _ _ true V.out).mono ?_
    rintro e w1 ⟨rfl, rfl⟩
    go_wp2_with fail
    refine (implString_any _ _ _ xs p4 p6 _ hz HN.out HV.out (by exact ha)).mono ?_
    rintro e w1 ⟨rfl, hb1⟩
    go_wp2_with fail
    refine (specString_any _ _ _ xs _ HN.out HV.out hc (by exact ha.below hb1)).mono ?_
    rintro e w2 ⟨rfl, hb2⟩
    go_wp2
    go_ret
    exact ⟨rfl, hb1.trans (hb2.mono hb1.size)⟩
  · have V := Lib.hid (show decide (n = 4 ∨ n = 16) = false by simpa using hv)
    clear hv
    go_enter Tryd.func7, Tryd.ntmps7
    go_wp2_with fail
    refine (valid_any _ _ _ _ false V.out).mono ?_
    rintro e w1 ⟨rfl, rfl⟩
    go_wp2
    go_ret
    exact ⟨rfl, Below.refl _ _⟩
end Go.Proofs.YtjepkkfpgmgnjaaDoor
