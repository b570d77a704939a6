/-
  Contracts of netip's uint128: xor, and, mask6, isZero. No condition.
-/
import Derived.Test.YtjepkkfpgmgnjaaDoorPfx
import Derived.Laws.BitsAllLaws
import Derived.Handy
namespace Go.Proofs.YtjepkkfpgmgnjaaDoor
open Go.RowKit
set_option linter.unusedVariables false

def u128V (hi lo : Nat) : Value := .agg #[.int .u64 (hi : Int), .int .u64 (lo : Int)]

set_option maxHeartbeats 1000000 in
theorem xor128 (a b c d : Nat) (w : World) (ha : a < 18446744073709551616) (hb : b < 18446744073709551616) (hc : c < 18446744073709551616) (hd : d < 18446744073709551616) :
    Calls Tryd.prog 66 #[u128V a b, u128V c d] w fun e w' => e = .returned (u128V (a ^^^ c) (b ^^^ d)) ∧ Below w.heap.size w w' := by
  have e1 := u64_xor_nat a c ha hc
  have e2 := u64_xor_nat b d hb hd
  unfold u128V
  generalize a ^^^ c = x at e1 ⊢
  generalize b ^^^ d = y at e2 ⊢
  go_enter Tryd.func66, Tryd.ntmps66
  go_wp2
  go_returns
  exact ⟨rfl, by go_grown⟩

set_option maxHeartbeats 1000000 in
theorem and128 (a b c d : Nat) (w : World) (ha : a < 18446744073709551616) (hb : b < 18446744073709551616) (hc : c < 18446744073709551616) (hd : d < 18446744073709551616) :
    Calls Tryd.prog 67 #[u128V a b, u128V c d] w fun e w' => e = .returned (u128V (a &&& c) (b &&& d)) ∧ Below w.heap.size w w' := by
  have e1 := u64_and_nat a c ha hc
  have e2 := u64_and_nat b d hb hd
  unfold u128V
  generalize a &&& c = x at e1 ⊢
  generalize b &&& d = y at e2 ⊢
  go_enter Tryd.func67, Tryd.ntmps67
  go_wp2
  go_returns
  exact ⟨rfl, by go_grown⟩

set_option maxHeartbeats 1000000 in
theorem zero128 (a b : Nat) (w : World) (ha : a < 18446744073709551616) (hb : b < 18446744073709551616) (r : Bool) (hr : decide (a = 0 ∧ b = 0) = r) :
    Calls Tryd.prog 69 #[u128V a b] w fun e w' => e = .returned (.bool r) ∧ Below w.heap.size w w' := by
  have e1 := u64_or_nat a b ha hb
  have HR := Lib.hid (show (((a ||| b : Nat) : Int) == 0) = r by
    rw [← hr]
    have h : (a ||| b = 0) ↔ (a = 0 ∧ b = 0) := Nat.or_eq_zero_iff
    rw [Bool.eq_iff_iff]
    simp only [beq_iff_eq, decide_eq_true_eq]
    omega)
  unfold u128V
  generalize a ||| b = x at e1 HR
  clear hr
  go_enter Tryd.func69, Tryd.ntmps69
  go_wp2
  go_ret
  exact ⟨ret_bool HR.out, by go_grown⟩

/-- the two halves of a mask of n ones -/
def mHi (n : Nat) : Nat := 18446744073709551615 ^^^ (18446744073709551615 / 2 ^ min n 64)
def mLo (n : Nat) : Nat := 18446744073709551615 * 2 ^ min (128 - n) 64 % 18446744073709551616
theorem div64_lt (m : Nat) : 18446744073709551615 / 2 ^ m < 18446744073709551616 := Nat.lt_of_le_of_lt (Nat.div_le_self _ _) (by decide)
theorem mHi_lt (n : Nat) : mHi n < 18446744073709551616 := Nat.xor_lt_two_pow (n := 64) (by decide) (div64_lt _)
theorem mLo_lt (n : Nat) : mLo n < 18446744073709551616 := Nat.mod_lt _ (by decide)
theorem mHi_bit (n j : Nat) : (mHi n).testBit j = decide (64 - n ≤ j ∧ j < 64) := by
  unfold mHi
  rw [Nat.testBit_xor, Nat.testBit_div_two_pow, show (18446744073709551615 : Nat) = 2 ^ 64 - 1 from rfl, Nat.testBit_two_pow_sub_one, Nat.testBit_two_pow_sub_one]
  by_cases h1 : j < 64
  · by_cases h2 : j + min n 64 < 64
    · rw [decide_eq_true h1, decide_eq_true h2, decide_eq_false (show ¬ (64 - n ≤ j ∧ j < 64) by omega)]; rfl
    · rw [decide_eq_true h1, decide_eq_false h2, decide_eq_true (show 64 - n ≤ j ∧ j < 64 by omega)]; rfl
  · rw [decide_eq_false h1, decide_eq_false (show ¬ j + min n 64 < 64 by omega), decide_eq_false (show ¬ (64 - n ≤ j ∧ j < 64) by omega)]; rfl
theorem mLo_bit (n j : Nat) : (mLo n).testBit j = decide (128 - n ≤ j ∧ j < 64) := by
  unfold mLo
  rw [show (18446744073709551616 : Nat) = 2 ^ 64 from rfl, Nat.testBit_mod_two_pow, Nat.mul_comm, Nat.testBit_two_pow_mul, show (18446744073709551615 : Nat) = 2 ^ 64 - 1 from rfl, Nat.testBit_two_pow_sub_one, Bool.eq_iff_iff]
  simp only [Bool.and_eq_true, decide_eq_true_eq]
  omega
theorem div_zero_iff (X k : Nat) : X / 2 ^ k = 0 ↔ ∀ j, k ≤ j → X.testBit j = false := by
  constructor
  · intro h j hj
    have h3 : (X / 2 ^ k).testBit (j - k) = false := by rw [h]; simp
    rwa [Nat.testBit_div_two_pow, show j - k + k = j by omega] at h3
  · intro h
    apply Nat.eq_of_testBit_eq
    intro j
    rw [Nat.testBit_div_two_pow, Nat.zero_testBit]
    exact h _ (by omega)
theorem and_zero_iff (X M : Nat) : X &&& M = 0 ↔ ∀ j, M.testBit j = true → X.testBit j = false := by
  constructor
  · intro h j hj
    have h3 : (X &&& M).testBit j = false := by rw [h]; simp
    rw [Nat.testBit_and, hj, Bool.and_true] at h3
    exact h3
  · intro h
    apply Nat.eq_of_testBit_eq
    intro j
    rw [Nat.testBit_and, Nat.zero_testBit]
    cases hm : M.testBit j with
    | false => simp
    | true => rw [h j hm]; rfl
theorem mHi_and (X n : Nat) (hX : X < 18446744073709551616) : X &&& mHi n = 0 ↔ X / 2 ^ (64 - n) = 0 := by
  rw [and_zero_iff, div_zero_iff]
  constructor
  · intro h j hj
    by_cases h64 : j < 64
    · exact h j (by rw [mHi_bit]; simp; omega)
    · exact Nat.testBit_lt_two_pow (Nat.lt_of_lt_of_le hX (Nat.pow_le_pow_right (n := 2) (by decide) (show 64 ≤ j by omega)))
  · intro h j hj
    rw [mHi_bit] at hj
    simp at hj
    exact h j (by omega)
theorem mLo_and (X n : Nat) (hX : X < 18446744073709551616) : X &&& mLo n = 0 ↔ X / 2 ^ (128 - n) = 0 := by
  rw [and_zero_iff, div_zero_iff]
  constructor
  · intro h j hj
    by_cases h64 : j < 64
    · exact h j (by rw [mLo_bit]; simp; omega)
    · exact Nat.testBit_lt_two_pow (Nat.lt_of_lt_of_le hX (Nat.pow_le_pow_right (n := 2) (by decide) (show 64 ≤ j by omega)))
  · intro h j hj
    rw [mLo_bit] at hj
    simp at hj
    exact h j (by omega)

set_option maxHeartbeats 1000000 in
theorem mask6_any (n : Nat) (w : World) (hn : n ≤ 128) :
    Calls Tryd.prog 68 #[.int .i64 (n : Int)] w fun e w' => e = .returned (u128V (mHi n) (mLo n)) ∧ Below w.heap.size w w' := by
  unfold u128V
  have hn1 : (n : Int) ≤ 128 := by omega
  have u1 : IntKind.i64.wrap (128 - (n : Int)) = 128 - (n : Int) := IntWalk.i64_in _ (by omega)
  have u2 : 0 ≤ 128 - (n : Int) := by omega
  have u3 : (128 - (n : Int)).toNat = 128 - n := by omega
  go_enter Tryd.func68, Tryd.ntmps68
  go_wp2
  go_region
  go_wp2
  go_returns
  refine ⟨?_, (by go_grown)⟩
  have e1 : bits BinOp.xor IntKind.u64 IntKind.u64.max (18446744073709551615 / 2 ^ min n 64) = ((mHi n : Nat) : Int) := by
    have h := u64_xor_nat 18446744073709551615 (18446744073709551615 / 2 ^ min n 64) (by decide) (div64_lt _)
    have h2 : ((18446744073709551615 / 2 ^ min n 64 : Nat) : Int) = 18446744073709551615 / 2 ^ min n 64 := by simp
    rw [h2] at h
    exact h
  have e2 : IntKind.u64.wrap (18446744073709551615 * 2 ^ min (128 - n) 64) = ((mLo n : Nat) : Int) := by
    have h2 : ((18446744073709551615 * 2 ^ min (128 - n) 64 : Nat) : Int) = 18446744073709551615 * 2 ^ min (128 - n) 64 := by simp
    rw [← h2, IntKind.wrap_u64]
    unfold mLo
    simp
  rw [e1, e2]
end Go.Proofs.YtjepkkfpgmgnjaaDoor
