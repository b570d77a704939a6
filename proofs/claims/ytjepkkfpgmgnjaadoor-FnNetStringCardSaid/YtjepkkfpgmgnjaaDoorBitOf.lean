/-
  The bit of bytes with a number, the highest one first: plain facts. No condition.
-/
import Derived.Test.YtjepkkfpgmgnjaaDoorKit
namespace Go.Proofs.YtjepkkfpgmgnjaaDoor
open Go.RowKit

/-- the bit with a number, the highest one of each byte first -/
def bitOf (xs : List UInt8) (i : Nat) : Bool := (xs.getD (i / 8) 0).toNat.testBit (7 - i % 8)
theorem shr_and (a k : Nat) (ha : a < 256) : (bits .and .u8 ((a : Int) / 2 ^ k) 1 == 1) = a.testBit k := by
  have h1 : ((a : Int) / 2 ^ k) = ((a / 2 ^ k : Nat) : Int) := by simp
  have h2 : a / 2 ^ k < 256 := Nat.lt_of_le_of_lt (Nat.div_le_self _ _) ha
  rw [h1, show (1 : Int) = ((1 : Nat) : Int) from rfl, u8_and_nat _ 1 h2 (by decide), Nat.testBit_eq_decide_div_mod_eq, Nat.and_one_is_mod]
  rw [Bool.eq_iff_iff]
  simp only [beq_iff_eq, Int.ofNat_inj, decide_eq_true_eq]
end Go.Proofs.YtjepkkfpgmgnjaaDoor
