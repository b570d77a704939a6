/-
  Contract of (net.IPMask).String: the mask in hexadecimal digits. Condition: the length (2^47).
-/
import Derived.Test.YtjepkkfpgmgnjaaDoorHex
namespace Go.Proofs.YtjepkkfpgmgnjaaDoor
open Go.RowKit

theorem maskString_any (A : Option Addr) (n c : Nat) (xs : List UInt8) (w : World) (hn : xs.length = n) (ha : Rd w A xs) (hs : n ≤ 140737488351232) (h0 : n ≠ 0) :
    Calls Tryd.prog 51 #[.slice A n c] w fun e w' => e = .returned (.string ⟨(hex xs).toArray⟩) ∧ Below w.heap.size w w' := by
  have HN := Lib.hid hn
  have hb0 : ((n : Int) == 0) = false := by simp; omega
  clear hn h0
  go_enter Tryd.func51, Tryd.ntmps51
  go_wp2_with fail
  refine (hexString_any _ _ _ xs _ HN.out (by exact ha) hs).mono ?_
  rintro e w1 ⟨rfl, hb1⟩
  go_wp2
  go_ret
  exact ⟨rfl, hb1⟩
end Go.Proofs.YtjepkkfpgmgnjaaDoor
