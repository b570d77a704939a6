/-
  The walk of the law FnMarshalTextAll. Condition: the length (2^47).
-/
import Derived.Test.YtjepkkfpgmgnjaaDoorMarshal
import Derived.Test.YtjepkkfpgmgnjaaDoorValid
namespace Go.Proofs.YtjepkkfpgmgnjaaDoor
open Go.RowKit
set_option linter.unusedVariables false

theorem walk_FnMarshalTextAll (A : Option Addr) (n c : Nat) (xs : List UInt8) (w : World) (hn : xs.length = n) (hc : n ≤ c) (hs : c ≤ 140737488351232) (ha : Rd w A xs) (hvars : ∃ p4 p6, ZF w p4 p6) :
    Calls Tryd.prog 5 #[.slice A n c] w fun e w' => e = .returned (.bool true) ∧ Below w.heap.size w w' := by
  obtain ⟨p4, p6, hz⟩ := hvars
  have HN := Lib.hid hn
  by_cases h0 : n = 0
  · subst h0
    clear hn
    go_enter Tryd.func5, Tryd.ntmps5
    go_wp2_with fail
    refine (implMar_zero _ _ _).mono ?_
    rintro e w1 ⟨rfl, hb1⟩
    go_wp2_with fail
    refine (valid_any _ _ _ _ false rfl).mono ?_
    rintro e w2 ⟨rfl, rfl⟩
    go_wp2
    go_ret
    exact ⟨rfl, hb1⟩
  · by_cases hv : n = 4 ∨ n = 16
    · have V := Lib.hid (show decide (n = 4 ∨ n = 16) = true by simpa using hv)
      have HV := Lib.hid hv
      clear hn hv h0
      go_enter Tryd.func5, Tryd.ntmps5
      go_wp2_with fail
      refine (implMar_any _ _ _ xs p4 p6 _ hz HN.out HV.out (by exact ha)).mono ?_
      rintro e w1 ⟨rfl, hb1⟩
      go_wp2_with fail
      refine (valid_any _ _ _ _ true V.out).mono ?_
      rintro e w2 ⟨rfl, rfl⟩
      go_wp2
      go_ret
      exact ⟨rfl, hb1⟩
    · have V := Lib.hid (show decide (n = 4 ∨ n = 16) = false by simpa using hv)
      have t0 : ((n : Int) == 0) = false := by simp; omega
      have n4 := Lib.hid (show n ≠ 4 by omega)
      have n16 := Lib.hid (show n ≠ 16 by omega)
      have n0 := Lib.hid h0
      clear hn hv h0
      go_enter Tryd.func5, Tryd.ntmps5
      go_wp2_with fail
      refine (implMar_other _ _ _ xs _ HN.out n0.out n4.out n16.out (by exact ha) (by omega)).mono ?_
      rintro e w1 ⟨rfl, hb1⟩
      go_wp2_with fail
      refine (valid_any _ _ _ _ false V.out).mono ?_
      rintro e w2 ⟨rfl, rfl⟩
      go_wp2
      go_ret
      exact ⟨rfl, hb1⟩
end Go.Proofs.YtjepkkfpgmgnjaaDoor
