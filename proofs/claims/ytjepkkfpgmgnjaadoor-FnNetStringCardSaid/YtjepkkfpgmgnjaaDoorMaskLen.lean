/-
  Masks that are ones and then zeros, plain facts: their bits, that bytes are told by their bits, and by which tests one sees that bytes are such a mask. No condition.
-/
import Derived.Test.YtjepkkfpgmgnjaaDoorCidr
import Derived.Test.YtjepkkfpgmgnjaaDoorBitOf
namespace Go.Proofs.YtjepkkfpgmgnjaaDoor
open Go.RowKit
set_option linter.unusedVariables false

theorem ob_bit (m t : Nat) (ht : t < 8) : (ob m).toNat.testBit (7 - t) = decide (t < m) := by
  rcases Nat.lt_or_ge m 8 with h | h
  · have : ∀ (m : Fin 8) (t : Fin 8), (ob m.val).toNat.testBit (7 - t.val) = decide (t.val < m.val) := by decide +kernel
    exact this ⟨m, h⟩ ⟨t, ht⟩
  · rw [ob_big h]
    have : ∀ (t : Fin 8), (255 : UInt8).toNat.testBit (7 - t.val) = true := by decide +kernel
    rw [this ⟨t, ht⟩]
    simp; omega
theorem cidr_bit (l n i : Nat) (hi : i < 8 * l) : bitOf (cidr l n) i = decide (i < n) := by
  unfold bitOf
  have h : i / 8 < l := by omega
  rw [List.getD_eq_getElem?_getD, List.getElem?_eq_getElem (by rw [cidr_length]; exact h), Option.getD_some, cidr_get l n (i / 8) h, ob_bit _ _ (by omega)]
  rw [Bool.eq_iff_iff]
  simp only [decide_eq_true_eq]
  omega
theorem byte_ext {x y : UInt8} (h : ∀ t, t < 8 → x.toNat.testBit (7 - t) = y.toNat.testBit (7 - t)) : x = y := by
  apply UInt8.toNat_inj.mp
  apply Nat.eq_of_testBit_eq
  intro i
  rcases Nat.lt_or_ge i 8 with hi | hi
  · have := h (7 - i) (by omega)
    rwa [show 7 - (7 - i) = i by omega] at this
  · have hp : (256 : Nat) ≤ 2 ^ i := Nat.le_trans (by decide : 256 ≤ 2 ^ 8) (Nat.pow_le_pow_right (by decide) hi)
    rw [Nat.testBit_lt_two_pow (Nat.lt_of_lt_of_le x.toNat_lt hp), Nat.testBit_lt_two_pow (Nat.lt_of_lt_of_le y.toNat_lt hp)]
theorem bits_ext {xs ys : List UInt8} (hl : xs.length = ys.length) (h : ∀ i, i < 8 * xs.length → bitOf xs i = bitOf ys i) : xs = ys := by
  apply List.ext_getElem hl
  intro j h1 h2
  apply byte_ext
  intro t ht
  have := h (8 * j + t) (by omega)
  unfold bitOf at this
  rw [show (8 * j + t) / 8 = j by omega, show (8 * j + t) % 8 = t by omega] at this
  simpa [h1, h2] using this
/-- ones, then zeros -/
theorem is_cidr {xs : List UInt8} {k : Nat} (h1 : ∀ j, j < k → bitOf xs j = true) (h0 : ∀ j, k ≤ j → j < 8 * xs.length → bitOf xs j = false) : xs = cidr xs.length k := by
  apply bits_ext (by rw [cidr_length])
  intro i hi
  rw [cidr_bit _ _ _ hi]
  rcases Nat.lt_or_ge i k with h | h
  · rw [h1 i h]; simp [h]
  · rw [h0 i h hi]; simp; omega
/-- a one behind a zero -/
theorem not_cidr {xs : List UInt8} {k j : Nat} (hj : j < 8 * xs.length) (hkj : k ≤ j) (h0 : bitOf xs k = false) (h1 : bitOf xs j = true) : ∀ m, xs ≠ cidr xs.length m := by
  intro m e
  rw [e, cidr_bit _ _ _ (by omega)] at h0
  rw [e, cidr_bit _ _ _ hj] at h1
  simp at h0 h1
  omega
theorem cidr_inj {l a b : Nat} (ha : a ≤ 8 * l) (hb : b ≤ 8 * l) (h : cidr l a = cidr l b) : a = b := by
  rcases Nat.lt_trichotomy a b with h1 | h1 | h1
  · have e1 := cidr_bit l a a (by omega)
    rw [h, cidr_bit l b a (by omega)] at e1
    simp at e1; omega
  · exact h1
  · have e1 := cidr_bit l a b (by omega)
    rw [h, cidr_bit l b b (by omega)] at e1
    simp at e1; omega

/-- so many ones a byte begins with -/
def lo8 (v : Nat) : Nat := ((List.range 8).find? fun j => !(v.testBit (7 - j))).getD 8
theorem lo8_le (v : Nat) (h : v < 255) : lo8 v < 8 := by
  have : ∀ v : Fin 255, lo8 v.val < 8 := by decide +kernel
  exact this ⟨v, h⟩
theorem lo8_on (v j : Nat) (h : v < 255) (hj : j < lo8 v) : (bits BinOp.and IntKind.u8 (((v * 2 ^ j % 256 : Nat)) : Int) 128 != 0) = true := by
  have : ∀ (v : Fin 255) (j : Fin 8), j.val < lo8 v.val → (bits BinOp.and IntKind.u8 (((v.val * 2 ^ j.val % 256 : Nat)) : Int) 128 != 0) = true := by decide +kernel
  exact this ⟨v, h⟩ ⟨j, Nat.lt_trans hj (lo8_le v h)⟩ hj
theorem lo8_off (v : Nat) (h : v < 255) : (bits BinOp.and IntKind.u8 (((v * 2 ^ lo8 v % 256 : Nat)) : Int) 128 != 0) = false := by
  have : ∀ (v : Fin 255), (bits BinOp.and IntKind.u8 (((v.val * 2 ^ lo8 v.val % 256 : Nat)) : Int) 128 != 0) = false := by decide +kernel
  exact this ⟨v, h⟩
theorem lo8_zero (v : UInt8) (h : v.toNat < 255) : v.toNat * 2 ^ lo8 v.toNat % 256 = 0 ↔ v = ob (lo8 v.toNat) := by
  have : ∀ (v : Fin 255), (v.val * 2 ^ lo8 v.val % 256 = 0 ↔ (UInt8.ofNat v.val) = ob (lo8 v.val)) := by decide +kernel
  have := this ⟨v.toNat, h⟩
  simpa using this
theorem lo8_ob (m : Nat) (h : m < 8) : lo8 (ob m).toNat = m := by
  have : ∀ (m : Fin 8), lo8 (ob m.val).toNat = m.val := by decide +kernel
  exact this ⟨m, h⟩
theorem shl_next (v j : Nat) : (v * 2 ^ j % 256) * 2 % 256 = v * 2 ^ (j + 1) % 256 := by
  rw [Nat.pow_succ, ← Nat.mul_assoc]
  omega
theorem ob_eq_255 (m : Nat) : ob m = 255 → 8 ≤ m := by
  intro h
  rcases Nat.lt_or_ge m 8 with h1 | h1
  · exfalso
    have : ∀ (m : Fin 8), ob m.val ≠ 255 := by decide +kernel
    exact this ⟨m, h1⟩ h
  · exact h1

theorem sml_all {xs : List UInt8} (h : ∀ j (hj : j < xs.length), xs[j] = 255) : xs = cidr xs.length (8 * xs.length) := by
  apply List.ext_getElem (by rw [cidr_length])
  intro j h1 h2
  rw [h j h1, cidr_get _ _ _ h1, ob_big (by omega)]
theorem sml_ok {xs : List UInt8} {k m : Nat} (hk : k < xs.length) (h1 : ∀ j (hj : j < xs.length), j < k → xs[j] = 255) (hm : xs[k] = ob m) (hm8 : m < 8) (h0 : ∀ j (hj : j < xs.length), k < j → xs[j] = 0) : xs = cidr xs.length (8 * k + m) := by
  apply List.ext_getElem (by rw [cidr_length])
  intro j a1 a2
  rw [cidr_get _ _ _ a1]
  rcases Nat.lt_trichotomy j k with h | h | h
  · rw [h1 j a1 h, ob_big (by omega)]
  · subst h; rw [hm]; congr 1; omega
  · rw [h0 j a1 h, show 8 * k + m - 8 * j = 0 by omega]; rfl
theorem sml_no1 {xs : List UInt8} {k : Nat} (hk : k < xs.length) (hne : xs[k] ≠ 255) (h : xs[k] ≠ ob (lo8 xs[k].toNat)) : ∀ m, xs ≠ cidr xs.length m := by
  intro m e
  have e1 : xs[k] = ob (m - 8 * k) := by
    have : xs[k] = (cidr xs.length m)[k]'(by rw [cidr_length]; exact hk) := by congr 1
    rw [this, cidr_get _ _ _ hk]
  rcases Nat.lt_or_ge (m - 8 * k) 8 with h1 | h1
  · rw [e1, lo8_ob _ h1] at h
    exact h rfl
  · rw [ob_big h1] at e1
    exact hne e1
theorem sml_no2 {xs : List UInt8} {k t : Nat} (hk : k < xs.length) (ht : t < xs.length) (hkt : k < t) (hne : xs[k] ≠ 255) (h : xs[t] ≠ 0) : ∀ m, xs ≠ cidr xs.length m := by
  intro m e
  have e1 : ∀ j (hj : j < xs.length), xs[j] = ob (m - 8 * j) := by
    intro j hj
    have : xs[j] = (cidr xs.length m)[j]'(by rw [cidr_length]; exact hj) := by congr 1
    rw [this, cidr_get _ _ _ hj]
  rcases Nat.lt_or_ge (m - 8 * k) 8 with h1 | h1
  · apply h
    rw [e1 t ht, show m - 8 * t = 0 by omega]
    rfl
  · apply hne
    rw [e1 k hk, ob_big h1]

/-- what spec.Size gives -/
def SizePost (xs : List UInt8) (w : World) (e : Ending) (w' : World) : Prop :=
  w = w' ∧ ((∃ k : Nat, k ≤ 8 * xs.length ∧ xs = cidr xs.length k ∧ e = .returned (.tuple #[.int .i64 (k : Int), .int .i64 (8 * (xs.length : Int)), .bool true])) ∨
    ((∀ m, xs ≠ cidr xs.length m) ∧ e = .returned (.tuple #[.int .i64 0, .int .i64 0, .bool false])))
/-- what net.simpleMaskLength gives -/
def SmlPost (xs : List UInt8) (w : World) (e : Ending) (w' : World) : Prop :=
  w = w' ∧ ((∃ k : Nat, k ≤ 8 * xs.length ∧ xs = cidr xs.length k ∧ e = .returned (.int .i64 (k : Int))) ∨
    ((∀ m, xs ≠ cidr xs.length m) ∧ e = .returned (.int .i64 (-1))))
/-- what (net.IPMask).Size gives -/
def MskPost (xs : List UInt8) (w : World) (e : Ending) (w' : World) : Prop :=
  Below w.heap.size w w' ∧ ((∃ k : Nat, k ≤ 8 * xs.length ∧ xs = cidr xs.length k ∧ e = .returned (.tuple #[.int .i64 (k : Int), .int .i64 ((xs.length : Int) * 8)])) ∨
    ((∀ m, xs ≠ cidr xs.length m) ∧ e = .returned (.tuple #[.int .i64 0, .int .i64 0])))
end Go.Proofs.YtjepkkfpgmgnjaaDoor
