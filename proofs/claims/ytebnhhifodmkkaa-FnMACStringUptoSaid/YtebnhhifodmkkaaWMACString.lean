/-
  The walk of the statement FnMACString: it returns true and changes nothing that was there, if the address has at most 1048576 bytes.
-/
import Derived.Test.YtebnhhifodmkkaaMac
namespace Go.Proofs.Ytebnhhifodmkkaa
open Go.RowKit

set_option maxHeartbeats 400000 in
theorem walk_FnMACString (A : Option Addr) (n c : Nat) (xs : List UInt8) (w : World) (hn : xs.length = n) (hc : n ≤ c) (hs : c ≤ 140737488351232) (ha : Rd w A xs) (hm : n ≤ 1048576) :
    Calls Try.prog 5 #[.slice A n c] w fun e w' => e = .returned (.bool true) ∧ Below w.heap.size w w' := by
  have HN := Lib.hid hn
  clear hn
  go_enter Try.func5, Try.ntmps5
  go_wp2_with fail
  refine (implMACString_any _ _ _ xs _ HN.out (by exact ha) (by omega)).mono ?_
  rintro e w1 ⟨rfl, hb1⟩
  go_wp2_with fail
  refine (specMAC_any _ _ _ xs 58 _ HN.out hc (by exact ha.below hb1) hs).mono ?_
  rintro e w2 ⟨rfl, k2, rfl⟩
  generalize mac [58] xs = j
  go_wp2
  go_ret
  exact ⟨ret_bool (by simp), below_drewN hb1 _⟩
end Go.Proofs.Ytebnhhifodmkkaa
