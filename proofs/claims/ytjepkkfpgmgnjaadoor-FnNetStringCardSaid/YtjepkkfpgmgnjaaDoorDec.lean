/-
  Contract of spec.decimal. No condition.
-/
import Derived.Test.YtjepkkfpgmgnjaaDoorTo4App
import Derived.Test.YtjepkkfpgmgnjaaDoorSpecHex
namespace Go.Proofs.YtjepkkfpgmgnjaaDoor
open Go.RowKit
set_option linter.unusedVariables false

theorem dg_dec (k : Nat) (h : k < 10) : (dg k).toNat = 48 + k := by
  have : ∀ k : Fin 10, (dg k.val).toNat = 48 + k.val := by decide +kernel
  exact this ⟨k, h⟩
theorem rd_lit1 (w : World) (x : UInt8) (v : Int) (t : TypeId) (hv : v = (x.toNat : Int)) : Rd (w.alloc (.cells #[.int .u8 v] t)) (some ⟨w.heap.size, 0, none⟩) [x] := by
  intro _
  refine ⟨w.heap.size, 0, rfl, by simp, fun j h => ?_⟩
  obtain rfl : j = 0 := by simpa using h
  subst hv
  simp

set_option maxRecDepth 100000 in
set_option maxHeartbeats 1000000 in
theorem decimal1 (n : Nat) (w : World) (h : n < 10) :
    Calls Tryd.prog 53 #[.int .u8 (n : Int)] w fun e w' => e = .returned (.string ⟨(dec n).toArray⟩) ∧ Below w.heap.size w w' := by
  have HD := Lib.hid (show dec n = [dg (n % 10)] by unfold dec; rw [if_neg (by omega), if_neg (by omega)])
  have hst := run_str (P := Tryd.prog) 22 9 5 Tryd.underlying22 Tryd.underlying5 Tryd.underlying9 1 (n := 1) (xs := [dg (n % 10)]) rfl (rd_lit1 w (dg (n % 10)) (48 + (n : Int) % 10) 5 (by rw [dg_dec _ (by omega)]; omega))
  generalize dg (n % 10) = d at hst HD
  go_enter Tryd.func53, Tryd.ntmps53
  go_wp2
  go_ret
  rw [HD.out]
  exact ⟨rfl, (Below.refl _ _).alloc (Nat.le_refl _) _⟩

theorem dec_step (n : Nat) (h1 : 10 ≤ n) (h2 : n < 256) : dec n = dec (n / 10) ++ [dg (n % 10)] := by
  unfold dec
  by_cases h : 100 ≤ n
  · rw [if_pos h, if_neg (by omega), if_pos (by omega), show n / 10 / 10 % 10 = n / 100 by omega]; rfl
  · rw [if_neg h, if_pos h1, if_neg (by omega), if_neg (by omega)]; rfl

set_option maxRecDepth 100000 in
set_option maxHeartbeats 1000000 in
theorem decimalS (n : Nat) (w : World) (h1 : 10 ≤ n) (h2 : n < 256)
    (hr : ∀ w, Calls Tryd.prog 53 #[.int .u8 ((n / 10 : Nat) : Int)] w fun e w' => e = .returned (.string ⟨(dec (n / 10)).toArray⟩) ∧ Below w.heap.size w w') :
    Calls Tryd.prog 53 #[.int .u8 (n : Int)] w fun e w' => e = .returned (.string ⟨(dec n).toArray⟩) ∧ Below w.heap.size w w' := by
  have HD := Lib.hid (dec_step n h1 h2)
  have HL := dec_len (n / 10)
  have hst := run_str (P := Tryd.prog) 22 9 5 Tryd.underlying22 Tryd.underlying5 Tryd.underlying9 1 (n := 1) (xs := [dg (n % 10)]) rfl (rd_lit1 w (dg (n % 10)) (48 + (n : Int) % 10) 5 (by rw [dg_dec _ (by omega)]; omega))
  generalize dg (n % 10) = d at hst HD
  generalize dec (n / 10) = T at hr HD HL
  have HR := Lib.hid hr
  clear hr
  go_enter Tryd.func53, Tryd.ntmps53
  go_wp2_with fail
  refine (HR.out _).mono ?_
  rintro e w1 ⟨rfl, hb1⟩
  go_wp2
  go_ret
  rw [HD.out]
  exact ⟨by simp [ba_app], ((Below.refl _ _).alloc (Nat.le_refl _) _).trans (hb1.mono (by simp))⟩
theorem decimal_any (x : UInt8) (w : World) :
    Calls Tryd.prog 53 #[.int .u8 (x.toNat : Int)] w fun e w' => e = .returned (.string ⟨(dec x.toNat).toArray⟩) ∧ Below w.heap.size w w' := by
  have hx := x.toNat_lt
  by_cases h1 : x.toNat < 10
  · exact decimal1 _ w h1
  · refine decimalS _ w (by omega) hx fun w => ?_
    by_cases h2 : x.toNat / 10 < 10
    · exact decimal1 _ w h2
    · exact decimalS _ w (by omega) (by omega) fun w => decimal1 _ w (by omega)
end Go.Proofs.YtjepkkfpgmgnjaaDoor
