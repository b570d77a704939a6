/-
  Contract of internal/bytealg.Equal: are two rows of bytes the same? No condition.
-/
import Derived.Test.YtjepkkfpgmgnjaaDoorBase
namespace Go.Proofs.YtjepkkfpgmgnjaaDoor
open Go.RowKit

theorem beqEq_any (A B : Option Addr) (n m c d : Nat) (xs ys : List UInt8) (w : World) (hn : xs.length = n) (hm : ys.length = m) (ha : Rd w A xs) (hb : Rd w B ys) (r : Bool) (hr : eqb xs ys = r) :
    Calls Tryd.prog 57 #[.slice A n c, .slice B m d] w fun e w' => e = .returned (.bool r) ∧ w' = w := by
  have h1 := run_str 22 9 5 Tryd.underlying22 Tryd.underlying5 Tryd.underlying9 c hn ha
  have h2 := run_str 22 9 5 Tryd.underlying22 Tryd.underlying5 Tryd.underlying9 d hm hb
  subst hr
  have HN := Lib.hid hn
  have HM := Lib.hid hm
  clear hn hm
  go_enter Tryd.func57, Tryd.ntmps57
  go_wp2
  go_ret
  refine ⟨ret_bool ?_, rfl⟩
  rw [Bool.eq_iff_iff]
  simp [eqb]
end Go.Proofs.YtjepkkfpgmgnjaaDoor
