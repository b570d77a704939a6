/-
  Contract of laws.small: a number below 256 in decimal. No condition.
-/
import Derived.Test.YtjepkkfpgmgnjaaDoorDec
namespace Go.Proofs.YtjepkkfpgmgnjaaDoor
open Go.RowKit
set_option linter.unusedVariables false

set_option maxRecDepth 100000 in
set_option maxHeartbeats 1000000 in
theorem lsmall1 (n : Nat) (w : World) (h : n < 10) :
    Calls Tryd.prog 17 #[.int .i64 (n : Int)] w fun e w' => e = .returned (.string ⟨(dec n).toArray⟩) ∧ Below w.heap.size w w' := by
  have HD := Lib.hid (show dec n = [dg (n % 10)] by unfold dec; rw [if_neg (by omega), if_neg (by omega)])
  have hst := run_str (P := Tryd.prog) 22 9 5 Tryd.underlying22 Tryd.underlying5 Tryd.underlying9 1 (n := 1) (xs := [dg (n % 10)]) rfl (rd_lit1 w (dg (n % 10)) (48 + (n : Int) % 10) 5 (by rw [dg_dec _ (by omega)]; omega))
  generalize dg (n % 10) = d at hst HD
  go_enter Tryd.func17, Tryd.ntmps17
  go_wp2
  go_ret
  rw [HD.out]
  exact ⟨rfl, (Below.refl _ _).alloc (Nat.le_refl _) _⟩

set_option maxRecDepth 100000 in
set_option maxHeartbeats 1000000 in
theorem lsmallS (n : Nat) (w : World) (h1 : 10 ≤ n) (h2 : n < 256)
    (hr : ∀ w, Calls Tryd.prog 17 #[.int .i64 ((n / 10 : Nat) : Int)] w fun e w' => e = .returned (.string ⟨(dec (n / 10)).toArray⟩) ∧ Below w.heap.size w w') :
    Calls Tryd.prog 17 #[.int .i64 (n : Int)] w fun e w' => e = .returned (.string ⟨(dec n).toArray⟩) ∧ Below w.heap.size w w' := by
  have HD := Lib.hid (dec_step n h1 h2)
  have HL := dec_len (n / 10)
  have hst := run_str (P := Tryd.prog) 22 9 5 Tryd.underlying22 Tryd.underlying5 Tryd.underlying9 1 (n := 1) (xs := [dg (n % 10)]) rfl (rd_lit1 w (dg (n % 10)) (48 + (n : Int) % 10) 5 (by rw [dg_dec _ (by omega)]; omega))
  generalize dg (n % 10) = d at hst HD
  generalize dec (n / 10) = T at hr HD HL
  have HR := Lib.hid hr
  clear hr
  go_enter Tryd.func17, Tryd.ntmps17
  go_wp2_with fail
  refine (HR.out _).mono ?_
  rintro e w1 ⟨rfl, hb1⟩
  go_wp2
  go_ret
  rw [HD.out]
  exact ⟨by simp [ba_app], ((Below.refl _ _).alloc (Nat.le_refl _) _).trans (hb1.mono (by simp))⟩
theorem lsmall_any (n : Nat) (hx : n < 256) (w : World) :
    Calls Tryd.prog 17 #[.int .i64 (n : Int)] w fun e w' => e = .returned (.string ⟨(dec n).toArray⟩) ∧ Below w.heap.size w w' := by
  by_cases h1 : n < 10
  · exact lsmall1 _ w h1
  · refine lsmallS _ w (by omega) hx fun w => ?_
    by_cases h2 : n / 10 < 10
    · exact lsmall1 _ w h2
    · exact lsmallS _ w (by omega) (by omega) fun w => lsmall1 _ w (by omega)
end Go.Proofs.YtjepkkfpgmgnjaaDoor
