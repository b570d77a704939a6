/-
  Contract of spec.bit: the bit with a number, the highest one first. Condition: the number lies in the bytes.
-/
import Derived.Test.YtkabdfmcflkkoaaBase
namespace Go.Proofs.Ytkabdfmcflkkoaa
open Go.RowKit

/-- the bit with a number, the highest one of each byte first -/
def bitOf (xs : List UInt8) (i : Nat) : Bool := (xs.getD (i / 8) 0).toNat.testBit (7 - i % 8)
theorem shr_and (a k : Nat) (ha : a < 256) : (bits .and .u8 ((a : Int) / 2 ^ k) 1 == 1) = a.testBit k := by
  have h1 : ((a : Int) / 2 ^ k) = ((a / 2 ^ k : Nat) : Int) := by simp
  have h2 : a / 2 ^ k < 256 := Nat.lt_of_le_of_lt (Nat.div_le_self _ _) ha
  rw [h1, show (1 : Int) = ((1 : Nat) : Int) from rfl, u8_and_nat _ 1 h2 (by decide), Nat.testBit_eq_decide_div_mod_eq, Nat.and_one_is_mod]
  rw [Bool.eq_iff_iff]
  simp only [beq_iff_eq, Int.ofNat_inj, decide_eq_true_eq]

set_option maxHeartbeats 400000 in
theorem bit_any (A : Option Addr) (n c : Nat) (xs : List UInt8) (i : Nat) (w : World) (hn : xs.length = n) (ha : Rd w A xs) (hi : i < 8 * n) (hs : n ≤ 140737488351232) (r : Bool) (hr : bitOf xs i = r) :
    Calls Try.prog 20 #[.slice A n c, .int .i64 (i : Int)] w fun e w' => e = .returned (.bool r) ∧ w = w' := by
  have hk : i / 8 < xs.length := by omega
  obtain ⟨b, off, rfl, _, hcell⟩ := ha.at_ hk
  have c0 := hcell (i / 8) hk
  clear hcell
  have HB := Lib.hid (show xs[i / 8].toNat.testBit (7 - i % 8) = r by rw [← hr]; simp [bitOf, hk])
  generalize xs[i / 8] = x at c0 HB
  have hx : x.toNat < 256 := x.toNat_lt
  have hkn : i / 8 < n := by omega
  clear hn hr
  go_enter Try.func20, Try.ntmps20
  go_wp2
  go_ret
  exact ⟨ret_bool ((shr_and _ _ hx).trans HB.out), rfl⟩
end Go.Proofs.Ytkabdfmcflkkoaa
