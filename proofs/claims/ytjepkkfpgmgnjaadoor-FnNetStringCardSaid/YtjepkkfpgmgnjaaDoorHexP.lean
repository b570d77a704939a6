/-
  Hexadecimal digits, plain facts: two small digits a byte. No condition.
-/
import Derived.Test.YtjepkkfpgmgnjaaDoorKit
namespace Go.Proofs.YtjepkkfpgmgnjaaDoor
open Go.RowKit

def digs : List UInt8 := [48, 49, 50, 51, 52, 53, 54, 55, 56, 57, 97, 98, 99, 100, 101, 102]
/-- the digit of a number below 16 -/
def dg (n : Nat) : UInt8 := digs.getD n 0
/-- the two digits of a byte -/
def hex2 (x : UInt8) : List UInt8 := [dg (x.toNat / 16), dg (x.toNat % 16)]
def hex (xs : List UInt8) : List UInt8 := xs.flatMap hex2
theorem hex_length (xs : List UInt8) : (hex xs).length = 2 * xs.length := by
  induction xs with
  | nil => rfl
  | cons x xs ih => simp only [hex, List.flatMap_cons, List.length_append, List.length_cons] at ih ⊢; rw [ih]; simp [hex2]; omega
theorem hex_snoc (xs : List UInt8) (x : UInt8) : hex (xs ++ [x]) = hex xs ++ hex2 x := by simp [hex]
theorem take_snoc (xs : List UInt8) (k : Nat) (h : k < xs.length) : xs.take (k + 1) = xs.take k ++ [xs[k]] := by
  rw [List.take_succ_eq_append_getElem h]

theorem dig_extract (n : Nat) (h : n < 16) : ({ data := #[48, 49, 50, 51, 52, 53, 54, 55, 56, 57, 97, 98, 99, 100, 101, 102] } : ByteArray).extract n (n + 1) = ⟨[dg n].toArray⟩ := by
  have : ∀ n : Fin 16, ({ data := #[48, 49, 50, 51, 52, 53, 54, 55, 56, 57, 97, 98, 99, 100, 101, 102] } : ByteArray).extract n.val (n.val + 1) = ⟨[dg n.val].toArray⟩ := by decide +kernel
  exact this ⟨n, h⟩

/-- the cells behind k bytes' digits: the digits, then zeros -/
def hexTo (xs : List UInt8) (k : Nat) : List UInt8 := hex (xs.take k) ++ List.replicate (2 * (xs.length - k)) 0

theorem dig_get (n : Nat) (h : n < 16) {h' : n < ({ data := #[48, 49, 50, 51, 52, 53, 54, 55, 56, 57, 97, 98, 99, 100, 101, 102] } : ByteArray).size} : ({ data := #[48, 49, 50, 51, 52, 53, 54, 55, 56, 57, 97, 98, 99, 100, 101, 102] } : ByteArray)[n] = dg n := by
  have : ∀ n : Fin 16, ({ data := #[48, 49, 50, 51, 52, 53, 54, 55, 56, 57, 97, 98, 99, 100, 101, 102] } : ByteArray)[n.val]'n.isLt = dg n.val := by decide +kernel
  exact this ⟨n, h⟩
theorem set_end (a : List UInt8) (m : Nat) (x y : UInt8) : ((a ++ List.replicate (m + 2) 0).set a.length x).set (a.length + 1) y = a ++ [x, y] ++ List.replicate m 0 := by
  rw [List.set_append_right _ _ (Nat.le_refl _), List.set_append_right _ _ (by omega)]
  simp [List.replicate_succ]
theorem hexTo_step (xs : List UInt8) (k : Nat) (h : k < xs.length) : ((hexTo xs k).set (k * 2) (dg (xs[k].toNat / 16))).set (k * 2 + 1) (dg (xs[k].toNat % 16)) = hexTo xs (k + 1) := by
  have e1 : (hex (xs.take k)).length = k * 2 := by rw [hex_length]; simp; omega
  have e2 : 2 * (xs.length - k) = 2 * (xs.length - (k + 1)) + 2 := by omega
  unfold hexTo
  rw [e2, take_snoc xs k h, hex_snoc]
  have := set_end (hex (xs.take k)) (2 * (xs.length - (k + 1))) (dg (xs[k].toNat / 16)) (dg (xs[k].toNat % 16))
  rw [e1] at this
  exact this
end Go.Proofs.YtjepkkfpgmgnjaaDoor
