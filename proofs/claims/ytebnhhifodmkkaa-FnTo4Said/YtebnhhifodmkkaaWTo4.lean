/-
  The walk of the statement FnTo4: it returns true and changes nothing that was there.
-/
import Derived.Test.YtebnhhifodmkkaaImplTo4
namespace Go.Proofs.Ytebnhhifodmkkaa
open Go.RowKit

set_option maxHeartbeats 400000 in
theorem walk_FnTo4 (A : Option Addr) (n c : Nat) (xs : List UInt8) (w : World) (hn : xs.length = n) (hc : n ≤ c) (hs : c ≤ 140737488351232) (ha : Rd w A xs) :
    Calls Try.prog 6 #[.slice A n c] w fun e w' => e = .returned (.bool true) ∧ Below w.heap.size w w' := by
  have HN := Lib.hid hn
  have hle : ((to4 xs).getD []).length ≤ 140737488351232 := Nat.le_trans (to4_le xs) (by omega)
  clear hn
  go_enter Try.func6, Try.ntmps6
  go_wp2_with fail
  refine (specTo4_any _ _ _ xs _ HN.out hc (by exact ha)).mono ?_
  rintro e w1 ⟨A1, n1, c1, rfl, hn1, hown1, hb1⟩
  have HN1 := Lib.hid hn1
  have hl1 : n1 ≤ 140737488351232 := by omega
  clear hn1
  go_wp2_with fail
  refine (implTo4_any _ _ _ xs _ HN.out (by omega) (by exact ha.below hb1)).mono ?_
  rintro e w2 ⟨A2, n2, c2, rfl, hn2, hown2, hb2⟩
  have HN2 := Lib.hid hn2
  have hl2 : n2 ≤ 140737488351232 := by omega
  clear hn2
  go_wp2_with fail
  refine (same_any _ _ _ _ _ _ ((to4 xs).getD []) ((to4 xs).getD []) _ HN2.out HN1.out (by exact Rd.of_own hown2) (by exact (Rd.of_own hown1).below hb2) (by omega) true (eqb_true rfl)).mono ?_
  rintro e w3 ⟨rfl, k3, rfl⟩
  go_wp2
  go_ret
  exact ⟨rfl, below_drewN (hb1.trans (hb2.mono hb1.size)) _⟩
end Go.Proofs.Ytebnhhifodmkkaa
