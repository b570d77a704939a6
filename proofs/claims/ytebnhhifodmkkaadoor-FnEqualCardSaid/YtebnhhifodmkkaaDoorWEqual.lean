/-
  The walk of the statement FnEqual: it returns true and changes nothing that was there.
-/
import Derived.Test.YtebnhhifodmkkaaDoorEqual
import Derived.Test.YtebnhhifodmkkaaDoorSpecTo16
namespace Go.Proofs.YtebnhhifodmkkaaDoor
open Go.RowKit
set_option linter.unusedVariables false

set_option maxHeartbeats 400000 in
theorem walk_FnEqual (A : Option Addr) (n c : Nat) (xs : List UInt8) (B : Option Addr) (m d : Nat) (ys : List UInt8) (w : World) (hn : xs.length = n) (hc : n ≤ c) (hs : c ≤ 140737488351232) (ha : Rd w A xs)
    (hm : ys.length = m) (hd : m ≤ d) (ht : d ≤ 140737488351232) (hb : Rd w B ys) (hv : V4 w) :
    Calls Tryd.prog 3 #[.slice A n c, .slice B m d] w fun e w' => e = .returned (.bool true) ∧ Below w.heap.size w w' := by
  have HN := Lib.hid hn
  have HM := Lib.hid hm
  by_cases v1 : n = 4 ∨ n = 16
  · have V1 := Lib.hid (show decide (n = 4 ∨ n = 16) = true by simpa using v1)
    by_cases v2 : m = 4 ∨ m = 16
    · have V2 := Lib.hid (show decide (m = 4 ∨ m = 16) = true by simpa using v2)
      have HE := Lib.hid (ipEq_to16 (xs := xs) (ys := ys) (by omega) (by omega))
      have W1 := Lib.hid v1
      have W2 := Lib.hid v2
      have hl1 := to16_le xs
      have hl2 := to16_le ys
      clear hn hm v1 v2
      go_enter Tryd.func3, Tryd.ntmps3
      go_wp2_with fail
      refine (valid_any _ _ _ _ true V1.out).mono ?_
      rintro e w0 ⟨rfl, rfl⟩
      go_wp2_with fail
      refine (valid_any _ _ _ _ true V2.out).mono ?_
      rintro e w0 ⟨rfl, rfl⟩
      go_wp2_with fail
      refine (specTo16_any _ _ _ xs _ HN.out (by exact ha)).mono ?_
      rintro e w1 ⟨A1, n1, c1, rfl, hn1, hown1, hb1⟩
      have hk1 : n1 ≤ 16 := by omega
      have HN1 := Lib.hid hn1
      clear hn1
      go_wp2_with fail
      refine (specTo16_any _ _ _ ys _ HM.out (by exact hb.below hb1)).mono ?_
      rintro e w2 ⟨A2, n2, c2, rfl, hn2, hown2, hb2⟩
      have HN2 := Lib.hid hn2
      clear hn2
      have hb12 := hb1.trans (hb2.mono hb1.size)
      go_wp2_with fail
      refine (implEqual_any _ _ _ _ _ _ xs ys _ (by exact hv.below hb12) HN.out HM.out (by exact ha.below hb12) (by exact hb.below hb12) W1.out W2.out _ rfl).mono ?_
      rintro e w3 ⟨rfl, hb3⟩
      go_wp2_with fail
      refine (same_any _ _ _ _ _ _ ((to16 xs).getD []) ((to16 ys).getD []) _ HN1.out HN2.out (by exact ((Rd.of_own hown1).below hb2).below hb3) (by exact (Rd.of_own hown2).below hb3) (by omega) _ HE.out).mono ?_
      rintro e w4 ⟨rfl, k4, rfl⟩
      generalize ipEq xs ys = r
      go_wp2
      go_ret
      exact ⟨ret_bool (by simp), below_drewN (hb12.trans (hb3.mono hb12.size)) _⟩
    · have V2 := Lib.hid (show decide (m = 4 ∨ m = 16) = false by simpa using v2)
      clear hn hm v1 v2
      go_enter Tryd.func3, Tryd.ntmps3
      go_wp2_with fail
      refine (valid_any _ _ _ _ true V1.out).mono ?_
      rintro e w0 ⟨rfl, rfl⟩
      go_wp2_with fail
      refine (valid_any _ _ _ _ false V2.out).mono ?_
      rintro e w0 ⟨rfl, rfl⟩
      go_wp2
      go_ret
      exact ⟨rfl, Below.refl _ _⟩
  · have V1 := Lib.hid (show decide (n = 4 ∨ n = 16) = false by simpa using v1)
    clear hn hm v1
    go_enter Tryd.func3, Tryd.ntmps3
    go_wp2_with fail
    refine (valid_any _ _ _ _ false V1.out).mono ?_
    rintro e w0 ⟨rfl, rfl⟩
    go_wp2
    go_ret
    exact ⟨rfl, Below.refl _ _⟩
end Go.Proofs.YtebnhhifodmkkaaDoor
