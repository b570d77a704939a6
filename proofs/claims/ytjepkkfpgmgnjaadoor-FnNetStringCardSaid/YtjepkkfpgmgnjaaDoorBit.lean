/-
  Contract of spec.bit: the bit with a number, the highest one first. Condition: the number lies in the bytes.
-/
import Derived.Test.YtjepkkfpgmgnjaaDoorBase
import Derived.Test.YtjepkkfpgmgnjaaDoorBitOf
namespace Go.Proofs.YtjepkkfpgmgnjaaDoor
open Go.RowKit

set_option maxHeartbeats 400000 in
theorem bit_any (A : Option Addr) (n c : Nat) (xs : List UInt8) (i : Nat) (w : World) (hn : xs.length = n) (ha : Rd w A xs) (hi : i < 8 * n) (hs : n ≤ 140737488351232) (r : Bool) (hr : bitOf xs i = r) :
    Calls Tryd.prog 32 #[.slice A n c, .int .i64 (i : Int)] w fun e w' => e = .returned (.bool r) ∧ w = w' := by
  have hk : i / 8 < xs.length := by omega
  obtain ⟨b, off, rfl, _, hcell⟩ := ha.at_ hk
  have c0 := hcell (i / 8) hk
  clear hcell
  have HB := Lib.hid (show xs[i / 8].toNat.testBit (7 - i % 8) = r by rw [← hr]; simp [bitOf, hk])
  generalize xs[i / 8] = x at c0 HB
  have hx : x.toNat < 256 := x.toNat_lt
  have hkn : i / 8 < n := by omega
  clear hn hr
  go_enter Tryd.func32, Tryd.ntmps32
  go_wp2
  go_ret
  exact ⟨ret_bool ((shr_and _ _ hx).trans HB.out), rfl⟩
end Go.Proofs.YtjepkkfpgmgnjaaDoor
