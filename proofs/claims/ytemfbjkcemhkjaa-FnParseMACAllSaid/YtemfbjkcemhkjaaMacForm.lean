/-
  The formats of link-layer addresses, plain facts: two small digits a byte, a sign before each group of bytes but the first. No condition.
-/
import Derived.Test.YtemfbjkcemhkjaaHexP
namespace Go.Proofs.Ytemfbjkcemhkjaa
open Go.RowKit
set_option linter.unusedVariables false

/-- the text of bytes in groups of b: from the byte with the number i on -/
def txFrom (sign : UInt8) (b : Nat) : Nat → List UInt8 → List UInt8
  | _, [] => []
  | i, x :: xs => (if 0 < i ∧ i % b = 0 then [sign] else []) ++ hex2 x ++ txFrom sign b (i + 1) xs
/-- the text of bytes in groups of b, a sign between the groups -/
def tx (sign : UInt8) (b : Nat) (xs : List UInt8) : List UInt8 := txFrom sign b 0 xs
theorem txFrom_snoc (sign : UInt8) (b i : Nat) (xs : List UInt8) (x : UInt8) : txFrom sign b i (xs ++ [x]) = txFrom sign b i xs ++ ((if 0 < i + xs.length ∧ (i + xs.length) % b = 0 then [sign] else []) ++ hex2 x) := by
  induction xs generalizing i with
  | nil => simp [txFrom]
  | cons y ys ih =>
    simp only [List.cons_append, txFrom, ih, List.length_cons]
    rw [show i + 1 + ys.length = i + (ys.length + 1) by omega]
    simp [List.append_assoc]
theorem tx_nil (sign : UInt8) (b : Nat) : tx sign b [] = [] := rfl
theorem tx_snoc (sign : UInt8) (b : Nat) (xs : List UInt8) (x : UInt8) : tx sign b (xs ++ [x]) = tx sign b xs ++ ((if 0 < xs.length ∧ xs.length % b = 0 then [sign] else []) ++ hex2 x) := by
  unfold tx
  rw [txFrom_snoc, Nat.zero_add]

theorem dg_digit (n : Nat) (h : n < 16) : ((dg n).toNat = 48 + n ∧ n < 10) ∨ ((dg n).toNat = 87 + n ∧ 10 ≤ n) := by
  have : ∀ n : Fin 16, ((dg n.val).toNat = 48 + n.val ∧ n.val < 10) ∨ ((dg n.val).toNat = 87 + n.val ∧ 10 ≤ n.val) := by decide
  exact this ⟨n, h⟩
theorem dg_zero : dg 0 = 48 := rfl
theorem dg_inj {a b : Nat} (ha : a < 16) (hb : b < 16) (h : dg a = dg b) : a = b := by
  have : ∀ (a b : Fin 16), dg a.val = dg b.val → a = b := by decide
  have := this ⟨a, ha⟩ ⟨b, hb⟩ h
  simpa using this
theorem hex2_inj {x y : UInt8} (h : hex2 x = hex2 y) : x = y := by
  simp only [hex2, List.cons.injEq, and_true] at h
  have h1 := dg_inj (by have := x.toNat_lt; omega) (by have := y.toNat_lt; omega) h.1
  have h2 := dg_inj (by omega) (by omega) h.2
  exact UInt8.toNat_inj.mp (by omega)
theorem hex_inj : ∀ {xs ys : List UInt8}, hex xs = hex ys → xs = ys
  | [], [], _ => rfl
  | [], y :: ys, h => by simp [hex, hex2] at h
  | x :: xs, [], h => by simp [hex, hex2] at h
  | x :: xs, y :: ys, h => by
    have h' : hex2 x ++ hex xs = hex2 y ++ hex ys := by simpa [hex] using h
    have hl : (hex2 x).length = (hex2 y).length := rfl
    obtain ⟨h1, h2⟩ := List.append_inj h' hl
    rw [hex2_inj h1, hex_inj h2]
/-- what is no sign between others -/
def digs3 (s : List UInt8) : List UInt8 := s.filter fun c => c != 58 && c != 45 && c != 46
theorem digs3_append (a b : List UInt8) : digs3 (a ++ b) = digs3 a ++ digs3 b := by simp [digs3]
theorem digs3_hex2 (x : UInt8) : digs3 (hex2 x) = hex2 x := by
  have key : ∀ n : Fin 16, (dg n.val != 58 && dg n.val != 45 && dg n.val != 46) = true := by decide
  have k1 := key ⟨x.toNat / 16, by have := x.toNat_lt; omega⟩
  have k2 := key ⟨x.toNat % 16, by omega⟩
  simp only [digs3, hex2, List.filter_cons, k1, k2, if_true, List.filter_nil]
theorem digs3_txFrom (sign : UInt8) (b i : Nat) (xs : List UInt8) (hs : sign = 58 ∨ sign = 45 ∨ sign = 46) : digs3 (txFrom sign b i xs) = hex xs := by
  induction xs generalizing i with
  | nil => rfl
  | cons x xs ih =>
    simp only [txFrom, digs3_append, ih, digs3_hex2]
    have : digs3 (if 0 < i ∧ i % b = 0 then [sign] else []) = [] := by
      split
      · rcases hs with rfl | rfl | rfl <;> rfl
      · rfl
    rw [this]
    simp [hex]
theorem digs3_hex (xs : List UInt8) : digs3 (hex xs) = hex xs := by
  induction xs with
  | nil => rfl
  | cons x xs ih =>
    have : hex (x :: xs) = hex2 x ++ hex xs := by simp [hex]
    rw [this, digs3_append, digs3_hex2, ih]

/-- the bytes of a text, group by group: what stands from a byte on -/
theorem txFrom_drop (sign : UInt8) (b : Nat) (hb : 0 < b) : ∀ (xs : List UInt8) (i : Nat) (h : i < xs.length) (j : Nat), ∃ p rest, txFrom sign b j xs = p ++ ((if 0 < j + i ∧ (j + i) % b = 0 then [sign] else []) ++ (hex2 xs[i] ++ rest)) ∧ p = txFrom sign b j (xs.take i) ∧ rest = txFrom sign b (j + i + 1) (xs.drop (i + 1))
  | [], i, h, _ => by simp at h
  | x :: xs, 0, _, j => ⟨[], txFrom sign b (j + 1) xs, by simp [txFrom], by simp [txFrom], by simp⟩
  | x :: xs, i + 1, h, j => by
    obtain ⟨p, rest, h1, h2, h3⟩ := txFrom_drop sign b hb xs i (by simpa using h) (j + 1)
    refine ⟨(if 0 < j ∧ j % b = 0 then [sign] else []) ++ hex2 x ++ p, rest, ?_, ?_, ?_⟩
    · simp only [txFrom, h1, List.getElem_cons_succ]
      rw [show j + 1 + i = j + (i + 1) by omega]
      simp [List.append_assoc]
    · simp [txFrom, h2]
    · rw [h3]; simp [show j + 1 + i + 1 = j + (i + 1) + 1 by omega]
theorem txFrom_head (sign : UInt8) (b j : Nat) (xs : List UInt8) (hj : 0 < j) (hm : j % b = 0) : txFrom sign b j xs = [] ∨ ∃ r, txFrom sign b j xs = sign :: r := by
  cases xs with
  | nil => exact .inl rfl
  | cons x xs => exact .inr ⟨_, by simp [txFrom, hj, hm]; rfl⟩

/-- how long a text of groups of one byte is, or of two -/
theorem tx1_len (sign : UInt8) (j : Nat) (xs : List UInt8) : (txFrom sign 1 (j + 1) xs).length = 3 * xs.length := by
  induction xs generalizing j with
  | nil => rfl
  | cons x xs ih => simp [txFrom, ih, hex2, Nat.mod_one]; omega
theorem tx1_length (sign : UInt8) (xs : List UInt8) : (tx sign 1 xs).length = 3 * xs.length - 1 := by
  cases xs with
  | nil => rfl
  | cons x xs => simp [tx, txFrom, tx1_len, hex2]; omega
theorem tx1_take (sign : UInt8) (xs : List UInt8) (i : Nat) (h : i < xs.length) : (txFrom sign 1 0 (xs.take i)).length + (if 0 < 0 + i ∧ (0 + i) % 1 = 0 then [sign] else []).length = 3 * i := by
  rcases i with _ | i
  · simp [txFrom]
  · have e := tx1_length sign (xs.take (i + 1))
    unfold tx at e
    rw [e]
    simp [Nat.mod_one, List.length_take]
    omega
/-- from the byte i on: its two digits, then nothing or the sign -/
theorem tx1_drop (sign : UInt8) (xs : List UInt8) (i : Nat) (h : i < xs.length) : ∃ rest, (tx sign 1 xs).drop (3 * i) = dg (xs[i].toNat / 16) :: dg (xs[i].toNat % 16) :: rest ∧ (rest = [] ∨ ∃ r, rest = sign :: r) := by
  obtain ⟨p, rest, h1, h2, h3⟩ := txFrom_drop sign 1 (by decide) xs i h 0
  refine ⟨rest, ?_, ?_⟩
  · unfold tx
    rw [h1, ← List.append_assoc]
    have hl : (p ++ (if 0 < 0 + i ∧ (0 + i) % 1 = 0 then [sign] else [])).length = 3 * i := by rw [List.length_append, h2]; exact tx1_take sign xs i h
    rw [← hl, List.drop_left]
    rfl
  · rw [h3]
    exact txFrom_head sign 1 _ _ (by omega) (by omega)

theorem tx2_len (sign : UInt8) : ∀ (m : Nat) (xs : List UInt8) (j : Nat), xs.length = 2 * m → (txFrom sign 2 (2 * (j + 1)) xs).length = 5 * m
  | 0, [], _, _ => rfl
  | 0, x :: xs, _, h => by simp at h
  | m + 1, [], _, h => by simp at h
  | m + 1, [x], _, h => by simp at h; omega
  | m + 1, x :: y :: xs, j, h => by
    have ih := tx2_len sign m xs (j + 1) (by simp at h; omega)
    simp only [txFrom]
    rw [show 2 * (j + 1) + 1 + 1 = 2 * (j + 1 + 1) by omega]
    rw [if_pos ⟨by omega, by omega⟩, if_neg (by omega)]
    simp [ih, hex2]; omega
theorem tx2_length (sign : UInt8) (m : Nat) (xs : List UInt8) (h : xs.length = 2 * m) : (tx sign 2 xs).length = 5 * m - 1 := by
  match m, xs, h with
  | 0, [], _ => rfl
  | 0, x :: xs, h => simp at h
  | m + 1, [], h => simp at h
  | m + 1, [x], h => simp at h; omega
  | m + 1, x :: y :: xs, h =>
    have ih := tx2_len sign m xs 0 (by simp at h; omega)
    simp only [tx, txFrom]
    rw [show 0 + 1 + 1 = 2 * (0 + 1) by omega, if_neg (by omega), if_neg (by omega)]
    simp [ih, hex2]; omega
/-- from a group on: its four digits, then nothing or the sign -/
theorem tx2_drop (sign : UInt8) (xs : List UInt8) (m g : Nat) (hm : xs.length = 2 * m) (h : 2 * g + 1 < xs.length) : ∃ rest, (tx sign 2 xs).drop (5 * g) = dg (xs[2 * g].toNat / 16) :: dg (xs[2 * g].toNat % 16) :: dg (xs[2 * g + 1].toNat / 16) :: dg (xs[2 * g + 1].toNat % 16) :: rest ∧ (rest = [] ∨ ∃ r, rest = sign :: r) := by
  obtain ⟨p, rest, h1, h2, h3⟩ := txFrom_drop sign 2 (by decide) xs (2 * g) (by omega) 0
  have hd : xs.drop (2 * g + 1) = xs[2 * g + 1] :: xs.drop (2 * g + 1 + 1) := List.drop_eq_getElem_cons h
  have hr : rest = hex2 xs[2 * g + 1] ++ txFrom sign 2 (2 * (g + 1)) (xs.drop (2 * g + 1 + 1)) := by
    rw [h3, hd]
    simp only [txFrom]
    rw [if_neg (by omega), show 0 + 2 * g + 1 + 1 = 2 * (g + 1) by omega]
    rfl
  refine ⟨txFrom sign 2 (2 * (g + 1)) (xs.drop (2 * g + 1 + 1)), ?_, txFrom_head sign 2 _ _ (by omega) (by omega)⟩
  unfold tx
  rw [h1, ← List.append_assoc, hr]
  have hl : (p ++ (if 0 < 0 + 2 * g ∧ (0 + 2 * g) % 2 = 0 then [sign] else [])).length = 5 * g := by
    rw [List.length_append, h2]
    have e := tx2_length sign g (xs.take (2 * g)) (by simp; omega)
    unfold tx at e
    rw [e]
    rcases g with _ | g
    · rfl
    · rw [if_pos ⟨by omega, by omega⟩]; simp; omega
  rw [← hl, List.drop_left]
  rfl
/-- the digits alone, from the byte i on -/
theorem hex_drop (xs : List UInt8) (i : Nat) (h : i < xs.length) : ∃ rest, (hex xs).drop (2 * i) = dg (xs[i].toNat / 16) :: dg (xs[i].toNat % 16) :: rest := by
  refine ⟨hex (xs.drop (i + 1)), ?_⟩
  have e : xs = xs.take i ++ (xs[i] :: xs.drop (i + 1)) := by rw [List.getElem_cons_drop]; exact (List.take_append_drop i xs).symm
  have e2 : hex xs = hex (xs.take i) ++ (hex2 xs[i] ++ hex (xs.drop (i + 1))) := by
    have := congrArg hex e
    rw [this]
    simp only [hex, List.flatMap_append, List.flatMap_cons]
  have hl : (hex (xs.take i)).length = 2 * i := by rw [hex_length]; simp; omega
  rw [e2, ← hl, List.drop_left]
  rfl
end Go.Proofs.Ytemfbjkcemhkjaa
