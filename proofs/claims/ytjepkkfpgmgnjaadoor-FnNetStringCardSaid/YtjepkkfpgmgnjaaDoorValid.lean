/-
  Contract of laws.valid: are there 4 or 16 bytes? No condition.
-/
import Derived.Test.YtjepkkfpgmgnjaaDoorKit
namespace Go.Proofs.YtjepkkfpgmgnjaaDoor
open Go.RowKit

theorem valid_any (A : Option Addr) (n c : Nat) (w : World) (r : Bool) (hr : decide (n = 4 ∨ n = 16) = r) :
    Calls Tryd.prog 13 #[.slice A n c] w fun e w' => e = .returned (.bool r) ∧ w = w' := by
  by_cases h4 : n = 4
  · subst h4
    obtain rfl : r = true := by rw [← hr]; rfl
    clear hr
    go_enter Tryd.func13, Tryd.ntmps13
    go_wp2
    go_ret
    exact ⟨rfl, rfl⟩
  · have e4 : ((n : Int) == 4) = false := by simp; omega
    by_cases h16 : n = 16
    · subst h16
      obtain rfl : r = true := by rw [← hr]; rfl
      clear hr
      go_enter Tryd.func13, Tryd.ntmps13
      go_wp2
      go_ret
      exact ⟨rfl, rfl⟩
    · have e16 : ((n : Int) == 16) = false := by simp; omega
      obtain rfl : r = false := by rw [← hr]; simp [h4, h16]
      clear hr h4 h16
      go_enter Tryd.func13, Tryd.ntmps13
      go_wp2
      go_ret
      exact ⟨rfl, rfl⟩
end Go.Proofs.YtjepkkfpgmgnjaaDoor
