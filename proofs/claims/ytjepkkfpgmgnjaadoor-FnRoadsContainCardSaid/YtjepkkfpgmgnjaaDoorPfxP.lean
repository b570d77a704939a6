/-
  Plain facts on the first bits of addresses: masked with so many ones, two addresses are the same just if these bits are; the same by the halves of netip. No condition.
-/
import Derived.Test.YtjepkkfpgmgnjaaDoorNetipFrom
import Derived.Test.YtjepkkfpgmgnjaaDoorMaskLen
import Derived.Test.YtjepkkfpgmgnjaaDoorAndP
namespace Go.Proofs.YtjepkkfpgmgnjaaDoor
open Go.RowKit
set_option linter.unusedVariables false

/-- are the first n bits the same? -/
def pfx (xs ys : List UInt8) (n : Nat) : Bool := (List.range n).all fun i => bitOf xs i == bitOf ys i
theorem pfx_iff (xs ys : List UInt8) (n : Nat) : pfx xs ys n = true ↔ ∀ i, i < n → bitOf xs i = bitOf ys i := by
  simp [pfx]
theorem getD_and (xs ms : List UInt8) (k : Nat) (h : xs.length = ms.length) (hk : k < xs.length) : (andL xs ms).getD k 0 = xs.getD k 0 &&& ms.getD k 0 := by
  rw [List.getD_eq_getElem?_getD, List.getElem?_eq_getElem (by rw [andL_length _ _ (by omega)]; exact hk), List.getD_eq_getElem?_getD, List.getElem?_eq_getElem hk, List.getD_eq_getElem?_getD, List.getElem?_eq_getElem (by omega)]
  simp only [Option.getD_some]
  exact andL_get xs ms k hk (by omega)
theorem bit_and (xs ms : List UInt8) (i : Nat) (h : xs.length = ms.length) (hi : i < 8 * xs.length) : bitOf (andL xs ms) i = (bitOf xs i && bitOf ms i) := by
  unfold bitOf
  rw [getD_and xs ms (i / 8) h (by omega)]
  simp [UInt8.toNat_and, Nat.testBit_and]
/-- masked with so many ones -/
theorem mask_pfx {xs ys : List UInt8} {l n : Nat} (hx : xs.length = l) (hy : ys.length = l) (hn : n ≤ 8 * l) : eqb (andL xs (cidr l n)) (andL ys (cidr l n)) = pfx xs ys n := by
  have hcl := cidr_length l n
  have lx := andL_length xs (cidr l n) (by omega)
  have ly := andL_length ys (cidr l n) (by omega)
  unfold eqb
  rw [Bool.eq_iff_iff, decide_eq_true_iff, pfx_iff]
  constructor
  · intro e i hi
    have h1 := bit_and xs (cidr l n) i (by omega) (by omega)
    have h2 := bit_and ys (cidr l n) i (by omega) (by omega)
    rw [cidr_bit l n i (by omega), decide_eq_true (show i < n from hi), Bool.and_true] at h1 h2
    rw [← h1, e, h2]
  · intro h
    refine bits_ext (by omega) fun i hi => ?_
    rw [bit_and xs (cidr l n) i (by omega) (by omega), bit_and ys (cidr l n) i (by omega) (by omega), cidr_bit l n i (by omega)]
    by_cases hin : i < n
    · rw [h i hin]
    · simp [hin]

theorem be_snoc (l : List UInt8) (x : UInt8) : be (l ++ [x]) = be l * 256 + x.toNat := by simp [be]
theorem be_lt (l : List UInt8) : be l < 2 ^ (8 * l.length) := by
  have key : ∀ t : List UInt8, be t.reverse < 2 ^ (8 * t.length) := by
    intro t
    induction t with
    | nil => simp [be]
    | cons x t ih =>
      have hx := x.toNat_lt
      rw [List.reverse_cons, be_snoc, List.length_cons, show 8 * (t.length + 1) = 8 * t.length + 8 by omega, Nat.pow_add]
      have : (2 : Nat) ^ 8 = 256 := rfl
      omega
  have := key l.reverse
  simpa using this
theorem be_bit (l : List UInt8) (i : Nat) (hi : i < 8 * l.length) : (be l).testBit (8 * l.length - 1 - i) = bitOf l i := by
  have key : ∀ (t : List UInt8) (i : Nat), i < 8 * t.length → (be t.reverse).testBit (8 * t.length - 1 - i) = bitOf t.reverse i := by
    intro t
    induction t with
    | nil => intro i hi; simp at hi
    | cons x t ih =>
      intro i hi
      rw [List.length_cons] at hi
      have hx := x.toNat_lt
      rw [List.reverse_cons, be_snoc, List.length_cons, show be t.reverse * 256 + x.toNat = 2 ^ 8 * be t.reverse + x.toNat by omega, Nat.testBit_two_pow_mul_add _ (by simpa using hx)]
      by_cases h : i < 8 * t.length
      · rw [if_neg (by omega), show 8 * (t.length + 1) - 1 - i - 8 = 8 * t.length - 1 - i by omega, ih i h]
        unfold bitOf
        rw [List.getD_eq_getElem?_getD, List.getD_eq_getElem?_getD, List.getElem?_append_left (by simp; omega)]
      · rw [if_pos (by omega)]
        unfold bitOf
        have e : i / 8 = t.reverse.length := by simp; omega
        rw [List.getD_eq_getElem?_getD, e, List.getElem?_concat_length]
        simp only [Option.getD_some]
        congr 1
        omega
  have := key l.reverse i (by simpa using hi)
  simpa using this
/-- the upper bits of two numbers -/
theorem top_iff (A B k L : Nat) (hA : A < 2 ^ L) (hB : B < 2 ^ L) : (A ^^^ B) / 2 ^ k = 0 ↔ ∀ j, k ≤ j → j < L → A.testBit j = B.testBit j := by
  constructor
  · intro h j h1 h2
    have h3 : ((A ^^^ B) / 2 ^ k).testBit (j - k) = false := by rw [h]; simp
    rw [Nat.testBit_div_two_pow, show j - k + k = j by omega, Nat.testBit_xor] at h3
    simpa using h3
  · intro h
    apply Nat.eq_of_testBit_eq
    intro j
    rw [Nat.testBit_div_two_pow, Nat.testBit_xor, Nat.zero_testBit]
    by_cases h2 : j + k < L
    · rw [h (j + k) (by omega) h2]; simp
    · rw [Nat.testBit_lt_two_pow (Nat.lt_of_lt_of_le hA (Nat.pow_le_pow_right (by decide) (by omega))), Nat.testBit_lt_two_pow (Nat.lt_of_lt_of_le hB (Nat.pow_le_pow_right (by decide) (by omega)))]
      rfl
/-- the first n bits of l bytes, by the number -/
theorem pfx_num (xs ys : List UInt8) (l n : Nat) (hx : xs.length = l) (hy : ys.length = l) (hn : n ≤ 8 * l) : (be xs ^^^ be ys) / 2 ^ (8 * l - n) = 0 ↔ pfx xs ys n = true := by
  have bx := be_lt xs
  have b_y := be_lt ys
  rw [hx] at bx
  rw [hy] at b_y
  rw [top_iff _ _ _ _ bx b_y, pfx_iff]
  constructor
  · intro h i hi
    have h1 := be_bit xs i (by omega)
    have h2 := be_bit ys i (by omega)
    rw [hx] at h1
    rw [hy] at h2
    rw [← h1, ← h2]
    exact h _ (by omega) (by omega)
  · intro h j h1 h2
    have a1 := be_bit xs (8 * l - 1 - j) (by omega)
    have a2 := be_bit ys (8 * l - 1 - j) (by omega)
    rw [hx, show 8 * l - 1 - (8 * l - 1 - j) = j by omega] at a1
    rw [hy, show 8 * l - 1 - (8 * l - 1 - j) = j by omega] at a2
    rw [a1, a2]
    exact h _ (by omega)
theorem bit_take (xs : List UInt8) (k i : Nat) (hi : i < 8 * k) : bitOf (xs.take k) i = bitOf xs i := by
  unfold bitOf
  rw [List.getD_eq_getElem?_getD, List.getD_eq_getElem?_getD, List.getElem?_take_of_lt (by omega)]
theorem bit_drop (xs : List UInt8) (k i : Nat) : bitOf (xs.drop k) i = bitOf xs (8 * k + i) := by
  unfold bitOf
  rw [List.getD_eq_getElem?_getD, List.getD_eq_getElem?_getD, List.getElem?_drop, show (8 * k + i) / 8 = k + i / 8 by omega, show (8 * k + i) % 8 = i % 8 by omega]
/-- the first n bits of 16 bytes, by the halves -/
theorem pfx_halves (xs ys : List UInt8) (n : Nat) (hx : xs.length = 16) (hy : ys.length = 16) (hn : n ≤ 128) :
    ((be (xs.take 8) ^^^ be (ys.take 8)) / 2 ^ (64 - n) = 0 ∧ (be (xs.drop 8) ^^^ be (ys.drop 8)) / 2 ^ (128 - n) = 0) ↔ pfx xs ys n = true := by
  have t := pfx_num (xs.take 8) (ys.take 8) 8 (min n 64) (by simp [hx]) (by simp [hy]) (by omega)
  have d := pfx_num (xs.drop 8) (ys.drop 8) 8 (n - 64) (by simp [hx]) (by simp [hy]) (by omega)
  rw [show 8 * 8 - min n 64 = 64 - n by omega] at t
  have d' : (be (xs.drop 8) ^^^ be (ys.drop 8)) / 2 ^ (128 - n) = 0 ↔ pfx (xs.drop 8) (ys.drop 8) (n - 64) = true := by
    by_cases h : 64 ≤ n
    · rw [show 8 * 8 - (n - 64) = 128 - n by omega] at d; exact d
    · have b1 := be_lt (xs.drop 8)
      have b2 := be_lt (ys.drop 8)
      rw [show (xs.drop 8).length = 8 by simp [hx]] at b1
      rw [show (ys.drop 8).length = 8 by simp [hy]] at b2
      rw [top_iff _ _ _ (8 * 8) b1 b2, show n - 64 = 0 by omega]
      exact ⟨fun _ => rfl, fun _ j h1 h2 => by omega⟩
  rw [t, d', pfx_iff, pfx_iff, pfx_iff]
  constructor
  · rintro ⟨h1, h2⟩ i hi
    by_cases h : i < 64
    · have := h1 i (by omega)
      rwa [bit_take _ _ _ (by omega), bit_take _ _ _ (by omega)] at this
    · have := h2 (i - 64) (by omega)
      rwa [bit_drop, bit_drop, show 8 * 8 + (i - 64) = i by omega] at this
  · intro h
    refine ⟨fun i hi => ?_, fun i hi => ?_⟩
    · rw [bit_take _ _ _ (by omega), bit_take _ _ _ (by omega)]; exact h i (by omega)
    · rw [bit_drop, bit_drop]; exact h _ (by omega)
end Go.Proofs.YtjepkkfpgmgnjaaDoor
