/-
  Plain facts on the text of 16 bytes by the reference: the groups of the bytes, a group without zeros that it does not need, the longest row of zeros. No condition.
-/
import Derived.Test.YtjepkkfpgmgnjaaDoorIPString
namespace Go.Proofs.YtjepkkfpgmgnjaaDoor
open Go.RowKit
set_option linter.unusedVariables false

theorem gr_at (xs : List UInt8) (h : xs.length = 16) (k : Nat) (hk : k < 8) : gr xs k = (xs.getD (2 * k) 0).toNat * 256 + (xs.getD (2 * k + 1) 0).toNat := by
  match xs, h with
  | [x0, x1, x2, x3, x4, x5, x6, x7, x8, x9, x10, x11, x12, x13, x14, x15], _ =>
    have b0 := x0.toNat_lt
    have b1 := x1.toNat_lt
    have b2 := x2.toNat_lt
    have b3 := x3.toNat_lt
    have b4 := x4.toNat_lt
    have b5 := x5.toNat_lt
    have b6 := x6.toNat_lt
    have b7 := x7.toNat_lt
    have b8 := x8.toNat_lt
    have b9 := x9.toNat_lt
    have b10 := x10.toNat_lt
    have b11 := x11.toNat_lt
    have b12 := x12.toNat_lt
    have b13 := x13.toNat_lt
    have b14 := x14.toNat_lt
    have b15 := x15.toNat_lt
    match k, hk with
    | 0, _ | 1, _ | 2, _ | 3, _ | 4, _ | 5, _ | 6, _ | 7, _ =>
      simp [gr, wd, be, List.getD]
      omega
theorem gr_lt (xs : List UInt8) (k : Nat) : gr xs k < 65536 := wd_lt _ _ _

theorem dg_zero {k : Nat} (h : k < 16) : dg k = 48 ↔ k = 0 := by
  have : ∀ k : Fin 16, dg k.val = 48 ↔ k.val = 0 := by decide +kernel
  exact this ⟨k, h⟩
/-- a text without the zeros at its front, but for a last one -/
def strip : List UInt8 → List UInt8
  | [] => []
  | [x] => [x]
  | x :: y :: r => if x = 48 then strip (y :: r) else x :: y :: r
theorem strip_yes {x : UInt8} {r : List UInt8} (h : x = 48) (hr : r ≠ []) : strip (x :: r) = strip r := by
  rcases r with _ | ⟨y, r⟩
  · exact absurd rfl hr
  · rw [strip, if_pos h]
theorem strip_no {x : UInt8} {r : List UInt8} (h : x ≠ 48) : strip (x :: r) = x :: r := by
  rcases r with _ | ⟨y, r⟩
  · rfl
  · rw [strip, if_neg h]
theorem strip_hex (a b : UInt8) : strip (hex [a, b]) = hx (a.toNat * 256 + b.toNat) := by
  have ha := a.toNat_lt
  have hb := b.toNat_lt
  have e : hex [a, b] = [dg (a.toNat / 16), dg (a.toNat % 16), dg (b.toNat / 16), dg (b.toNat % 16)] := rfl
  rw [e]
  generalize a.toNat = m at *
  generalize b.toNat = n at *
  have e1 : (m * 256 + n) / 4096 = m / 16 := by omega
  have e2 : (m * 256 + n) / 256 % 16 = m % 16 := by omega
  have e3 : (m * 256 + n) / 16 % 16 = n / 16 := by omega
  have e4 : (m * 256 + n) % 16 = n % 16 := by omega
  unfold hx
  rw [e1, e2, e3, e4]
  by_cases h1 : m / 16 = 0
  · rw [if_neg (by omega), strip_yes ((dg_zero (by omega)).mpr h1) (by simp)]
    by_cases h2 : m % 16 = 0
    · rw [if_neg (by omega), strip_yes ((dg_zero (by omega)).mpr h2) (by simp)]
      by_cases h3 : n / 16 = 0
      · rw [if_neg (by omega), strip_yes ((dg_zero (by omega)).mpr h3) (by simp)]
        rfl
      · rw [if_pos (by omega), strip_no (fun e => h3 ((dg_zero (by omega)).mp e))]
    · rw [if_pos (by omega), strip_no (fun e => h2 ((dg_zero (by omega)).mp e))]
  · rw [if_pos (by omega), strip_no (fun e => h1 ((dg_zero (by omega)).mp e))]

/-- the longest row so far, as the reference keeps it: where it begins, and how long it is -/
def sbst (g : Nat → Nat) : Nat → Nat × Nat
  | 0 => (0, 1)
  | i + 1 => if (sbst g i).2 < run g i then (i, run g i) else sbst g i
theorem sbst_bst (g : Nat → Nat) (i : Nat) (h : i ≤ 8) : ((bst g i).1 = 255 ∧ (bst g i).2 = 255 ∧ sbst g i = (0, 1)) ∨ ((bst g i).1 + 2 ≤ (bst g i).2 ∧ (bst g i).2 ≤ 8 ∧ sbst g i = ((bst g i).1, (bst g i).2 - (bst g i).1)) := by
  induction i with
  | zero => exact .inl ⟨rfl, rfl, rfl⟩
  | succ i ih =>
    have hr := run_le g i (by omega)
    rcases ih (by omega) with ⟨h1, h2, h3⟩ | ⟨h1, h2, h3⟩
    · by_cases hc : 2 ≤ run g i
      · refine .inr ?_
        have e1 : bst g (i + 1) = (i, i + run g i) := by simp only [bst]; rw [if_pos ⟨hc, by rw [h1, h2]; omega⟩]
        have e2 : sbst g (i + 1) = (i, run g i) := by simp only [sbst]; rw [h3, if_pos (show 1 < run g i by omega)]
        rw [e1, e2]
        exact ⟨by simp; omega, by simpa using hr, by simp⟩
      · refine .inl ?_
        have e1 : bst g (i + 1) = bst g i := by simp only [bst]; rw [if_neg (fun h => hc h.1)]
        have e2 : sbst g (i + 1) = sbst g i := by simp only [sbst]; rw [h3, if_neg (show ¬ 1 < run g i by omega)]
        rw [e1, e2]
        exact ⟨h1, h2, h3⟩
    · by_cases hc : (bst g i).2 - (bst g i).1 < run g i
      · refine .inr ?_
        have e1 : bst g (i + 1) = (i, i + run g i) := by simp only [bst]; rw [if_pos ⟨by omega, hc⟩]
        have e2 : sbst g (i + 1) = (i, run g i) := by simp only [sbst]; rw [h3, if_pos (show (bst g i).2 - (bst g i).1 < run g i from hc)]
        rw [e1, e2]
        exact ⟨by simp; omega, by simpa using hr, by simp⟩
      · refine .inr ?_
        have e1 : bst g (i + 1) = bst g i := by simp only [bst]; rw [if_neg (fun h => hc h.2)]
        have e2 : sbst g (i + 1) = sbst g i := by simp only [sbst]; rw [h3, if_neg (show ¬ (bst g i).2 - (bst g i).1 < run g i from hc)]
        rw [e1, e2]
        exact ⟨h1, h2, h3⟩
theorem sbst_yes {g : Nat → Nat} {k b m : Nat} (h : sbst g k = (b, m)) (hr : m < run g k) : sbst g (k + 1) = (k, run g k) := by
  simp only [sbst]; rw [h, if_pos hr]
theorem sbst_no {g : Nat → Nat} {k b m : Nat} (h : sbst g k = (b, m)) (hr : ¬ m < run g k) : sbst g (k + 1) = (b, m) := by
  simp only [sbst]; rw [h, if_neg hr]

/-- what has been written before the group i, as the reference writes it: b, m: the row that is '::', m = 1: there is none -/
def partS (g : Nat → Nat) (b m i : Nat) : List UInt8 := if m ≤ 1 ∨ i ≤ b then jn g 0 i else jn g 0 b ++ 58 :: 58 :: jn g (b + m) (i - (b + m))
theorem partS_end (g : Nat → Nat) : partS g (sbst g 8).1 (sbst g 8).2 8 = long g := by
  unfold long
  rcases sbst_bst g 8 (Nat.le_refl _) with ⟨h1, h2, h3⟩ | ⟨h1, h2, h3⟩
  · rw [if_pos h1, h3]; unfold partS; rw [if_pos (by omega)]
  · rw [if_neg (by omega), h3]
    unfold partS
    simp only []
    rw [if_neg (by omega), show (bst g 8).1 + ((bst g 8).2 - (bst g 8).1) = (bst g 8).2 by omega]
theorem jn_succ (g : Nat → Nat) (a k : Nat) : jn g a (k + 1) = jn g a k ++ ((if k = 0 then [] else [58]) ++ hx (g (a + k))) := rfl
theorem hx_ne (n : Nat) : hx n ≠ [] := by
  unfold hx; split
  · simp
  · split
    · simp
    · split <;> simp
theorem dg_ne58 (k : Nat) : dg k ≠ 58 := by
  by_cases h : k < 16
  · have : ∀ k : Fin 16, dg k.val ≠ 58 := by decide +kernel
    exact this ⟨k, h⟩
  · have : dg k = 0 := by unfold dg; rw [List.getD_eq_getElem?_getD, List.getElem?_eq_none (by simp [digs]; omega)]; rfl
    rw [this]; decide
theorem hx_last (n : Nat) : ∃ l, hx n = l ++ [dg (n % 16)] := by
  unfold hx; split
  · exact ⟨[_, _, _], rfl⟩
  · split
    · exact ⟨[_, _], rfl⟩
    · split
      · exact ⟨[_], rfl⟩
      · exact ⟨[], rfl⟩
theorem jn_last (g : Nat → Nat) (a k : Nat) (h : k ≠ 0) : ∃ l d, jn g a k = l ++ [d] ∧ d ≠ 58 := by
  rcases k with _ | k
  · exact absurd rfl h
  · obtain ⟨l, e⟩ := hx_last (g (a + k))
    rw [jn_succ, e]
    exact ⟨jn g a k ++ ((if k = 0 then [] else [58]) ++ l), dg (g (a + k) % 16), by simp, dg_ne58 _⟩
/-- is there a colon to be written ahead of a group? -/
def wantC (l : List UInt8) : Bool := !l.isEmpty && l.getLast? != some 58
theorem wantC_snoc (l : List UInt8) (d : UInt8) : wantC (l ++ [d]) = (d != 58) := by
  have h1 : (l ++ [d]).isEmpty = false := by cases l <;> rfl
  have h2 : (some d != some (58 : UInt8)) = (d != 58) := rfl
  unfold wantC
  rw [h1, List.getLast?_concat, h2]
  simp
theorem partS_next {g : Nat → Nat} {b m k : Nat} (h : m ≤ 1 ∨ k < b ∨ b + m ≤ k) : partS g b m (k + 1) = partS g b m k ++ ((if wantC (partS g b m k) then [58] else []) ++ hx (g k)) := by
  have key : ∀ (pre : List UInt8) (a j : Nat), (pre = [] ∨ ∃ l, pre = l ++ [58]) → pre ++ jn g a (j + 1) = pre ++ jn g a j ++ ((if wantC (pre ++ jn g a j) then [58] else []) ++ hx (g (a + j))) := by
    intro pre a j hp
    rw [jn_succ, List.append_assoc]
    congr 2
    by_cases hj : j = 0
    · subst hj
      rw [if_pos rfl]
      simp only [jn, List.append_nil]
      rcases hp with rfl | ⟨l, rfl⟩
      · rfl
      · rw [wantC_snoc]; rfl
    · obtain ⟨l, d, e, hd⟩ := jn_last g a j hj
      rw [if_neg hj, e, ← List.append_assoc, wantC_snoc, if_pos (by simpa using hd)]
  by_cases h1 : m ≤ 1 ∨ k < b
  · have e1 : partS g b m (k + 1) = jn g 0 (k + 1) := by unfold partS; rw [if_pos (by omega)]
    have e2 : partS g b m k = jn g 0 k := by unfold partS; rw [if_pos (by omega)]
    rw [e1, e2]
    have := key [] 0 k (.inl rfl)
    simpa using this
  · have e1 : partS g b m (k + 1) = (jn g 0 b ++ [58, 58]) ++ jn g (b + m) (k - (b + m) + 1) := by
      unfold partS; rw [if_neg (by omega), show k + 1 - (b + m) = k - (b + m) + 1 by omega]; simp
    have e2 : partS g b m k = (jn g 0 b ++ [58, 58]) ++ jn g (b + m) (k - (b + m)) := by
      unfold partS; rw [if_neg (by omega)]; simp
    rw [e1, e2]
    have := key (jn g 0 b ++ [58, 58]) (b + m) (k - (b + m)) (.inr ⟨jn g 0 b ++ [58], by simp⟩)
    rwa [show b + m + (k - (b + m)) = k by omega] at this
theorem partS_gap {g : Nat → Nat} {b m : Nat} (h : 1 < m) : partS g b m (b + m) = partS g b m b ++ [58, 58] := by
  unfold partS
  rw [if_neg (by omega), if_pos (by omega), Nat.sub_self]
  rfl
theorem partS_len (g : Nat → Nat) (b m i : Nat) (hi : i ≤ 8) (hb : b ≤ 8) : (partS g b m i).length ≤ 100 := by
  unfold partS
  split
  · have := jn_len g 0 i; omega
  · have h1 := jn_len g 0 b
    have h2 := jn_len g (b + m) (i - (b + m))
    simp
    omega
end Go.Proofs.YtjepkkfpgmgnjaaDoor
