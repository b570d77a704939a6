/-
  The walk of the law FnMarshalText. No condition.
-/
import Derived.Test.YtjepkkfpgmgnjaaDoorSpecStr
import Derived.Test.YtjepkkfpgmgnjaaDoorMarshal
import Derived.Test.YtjepkkfpgmgnjaaDoorValid
import Derived.Test.YtjepkkfpgmgnjaaDoorMixed
namespace Go.Proofs.YtjepkkfpgmgnjaaDoor
open Go.RowKit
set_option linter.unusedVariables false

set_option maxHeartbeats 1000000 in
theorem walk_FnMarshalText (A : Option Addr) (n c : Nat) (xs : List UInt8) (w : World) (hn : xs.length = n) (hc : n ≤ c) (hs : c ≤ 140737488351232) (ha : Rd w A xs) (hvars : ∃ p4 p6, ZF w p4 p6) :
    Calls Tryd.prog 9 #[.slice A n c] w fun e w' => e = .returned (.bool true) ∧ Below w.heap.size w w' := by
  obtain ⟨p4, p6, hz⟩ := hvars
  have HN := Lib.hid hn
  clear hn
  by_cases h0 : n = 0
  · subst h0
    go_enter Tryd.func9, Tryd.ntmps9
    go_wp2_with fail
    refine (valid_any _ _ _ _ false rfl).mono ?_
    rintro e w1 ⟨rfl, rfl⟩
    go_wp2_with fail
    refine (implMar_zero _ _ _).mono ?_
    rintro e w1 ⟨rfl, hb1⟩
    go_wp2_with fail
    refine (mixed_any _ _ _ xs _ HN.out hc (by exact ha.below hb1)).mono ?_
    rintro e w0 ⟨⟨r, rfl⟩, hb0⟩
    have hb2 := hb1.trans (hb0.mono hb1.size)
    rcases r with _ | _
    · go_wp2
      go_ret
      exact ⟨rfl, hb2⟩
    · go_wp2
      go_ret
      exact ⟨rfl, hb2⟩
  · have p0 : (0 : Int) < (n : Int) := by omega
    have t0 : ((n : Int) == 0) = false := by simp; omega
    clear h0
    by_cases hv : n = 4 ∨ n = 16
    · have V := Lib.hid (show decide (n = 4 ∨ n = 16) = true by simpa using hv)
      have HV := Lib.hid hv
      clear hv
      go_enter Tryd.func9, Tryd.ntmps9
      go_wp2_with fail
      refine (valid_any _ _ _ _ true V.out).mono ?_
      rintro e w1 ⟨rfl, rfl⟩
      go_wp2_with fail
      refine (implMar_any _ _ _ xs p4 p6 _ hz HN.out HV.out (by exact ha)).mono ?_
      rintro e w1 ⟨rfl, hb1⟩
      go_wp2_with fail
      refine (implString_any _ _ _ xs p4 p6 _ (hz.below hb1) HN.out HV.out (by exact ha.below hb1)).mono ?_
      rintro e w2 ⟨rfl, hb2'⟩
      have hb2 := hb1.trans (hb2'.mono hb1.size)
      go_wp2_with fail
      refine (mixed_any _ _ _ xs _ HN.out hc (by exact ha.below hb2)).mono ?_
      rintro e w0 ⟨⟨r, rfl⟩, hb0⟩
      have hb3 := hb2.trans (hb0.mono hb2.size)
      rcases r with _ | _
      · go_wp2_with fail
        refine (specString_any _ _ _ xs _ HN.out HV.out hc (by exact ha.below hb3)).mono ?_
        rintro e w4 ⟨rfl, hb4⟩
        go_wp2
        go_ret
        exact ⟨rfl, hb3.trans (hb4.mono hb3.size)⟩
      · go_wp2
        go_ret
        exact ⟨rfl, hb3⟩
    · have V := Lib.hid (show decide (n = 4 ∨ n = 16) = false by simpa using hv)
      clear hv
      go_enter Tryd.func9, Tryd.ntmps9
      go_wp2_with fail
      refine (valid_any _ _ _ _ false V.out).mono ?_
      rintro e w1 ⟨rfl, rfl⟩
      go_wp2
      go_ret
      exact ⟨rfl, Below.refl _ _⟩
end Go.Proofs.YtjepkkfpgmgnjaaDoor
