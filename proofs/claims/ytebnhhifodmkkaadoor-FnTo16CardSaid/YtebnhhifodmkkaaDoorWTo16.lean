/-
  The walk of the statement FnTo16: it returns true and changes nothing that was there.
-/
import Derived.Test.YtebnhhifodmkkaaDoorTo16
import Derived.Test.YtebnhhifodmkkaaDoorSpecTo16
namespace Go.Proofs.YtebnhhifodmkkaaDoor
open Go.RowKit

set_option maxHeartbeats 400000 in
theorem walk_FnTo16 (A : Option Addr) (n c : Nat) (xs : List UInt8) (w : World) (hn : xs.length = n) (hc : n ≤ c) (hs : c ≤ 140737488351232) (ha : Rd w A xs) (hv : V4 w) :
    Calls Tryd.prog 4 #[.slice A n c] w fun e w' => e = .returned (.bool true) ∧ Below w.heap.size w w' := by
  have HN := Lib.hid hn
  have hle := to16_le xs
  clear hn
  go_enter Tryd.func4, Tryd.ntmps4
  go_wp2_with fail
  refine (specTo16_any _ _ _ xs _ HN.out (by exact ha)).mono ?_
  rintro e w1 ⟨A1, n1, c1, rfl, hn1, hown1, hb1⟩
  have HN1 := Lib.hid hn1
  have hl1 : n1 ≤ 16 := by omega
  clear hn1
  go_wp2_with fail
  refine (implTo16_any _ _ _ xs _ (by exact hv.below hb1) HN.out (by omega) (by exact ha.below hb1)).mono ?_
  rintro e w2 ⟨A2, n2, c2, rfl, hn2, hown2, hb2⟩
  have HN2 := Lib.hid hn2
  have hl2 : n2 ≤ 16 := by omega
  clear hn2
  go_wp2_with fail
  refine (same_any _ _ _ _ _ _ ((to16 xs).getD []) ((to16 xs).getD []) _ HN2.out HN1.out (by exact Rd.of_own hown2) (by exact (Rd.of_own hown1).below hb2) (by omega) true (eqb_true rfl)).mono ?_
  rintro e w3 ⟨rfl, k3, rfl⟩
  go_wp2
  go_ret
  exact ⟨rfl, below_drewN (hb1.trans (hb2.mono hb1.size)) _⟩
end Go.Proofs.YtebnhhifodmkkaaDoor
