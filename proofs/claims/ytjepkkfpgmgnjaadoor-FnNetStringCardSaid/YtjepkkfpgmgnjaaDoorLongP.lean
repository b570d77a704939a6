/-
  The text of eight groups by RFC 5952, plain: the longest row of two or more groups of zeros, of several the first one, is '::'. No condition.
-/
import Derived.Test.YtjepkkfpgmgnjaaDoorAppTo
namespace Go.Proofs.YtjepkkfpgmgnjaaDoor
open Go.RowKit
set_option linter.unusedVariables false

/-- how many of the next k groups from i on are zeros, without a gap -/
def zr (g : Nat → Nat) : Nat → Nat → Nat
  | 0, _ => 0
  | k + 1, i => if g i = 0 then 1 + zr g k (i + 1) else 0
/-- the row of zeros at i, of eight groups -/
def run (g : Nat → Nat) (i : Nat) : Nat := zr g (8 - i) i
theorem zr_le (g : Nat → Nat) (k i : Nat) : zr g k i ≤ k := by
  induction k generalizing i with
  | zero => simp [zr]
  | succ k ih =>
    simp only [zr]
    split
    · have := ih (i + 1)
      omega
    · omega
theorem zr_zero (g : Nat → Nat) (k i j : Nat) (h : j < zr g k i) : g (i + j) = 0 := by
  induction k generalizing i j with
  | zero => simp [zr] at h
  | succ k ih =>
    simp only [zr] at h
    split at h
    · rename_i h0
      rcases j with _ | j
      · exact h0
      · have := ih (i + 1) j (by omega)
        rwa [show i + 1 + j = i + (j + 1) by omega] at this
    · omega
theorem zr_stop (g : Nat → Nat) (k i : Nat) (h : zr g k i < k) : g (i + zr g k i) ≠ 0 := by
  induction k generalizing i with
  | zero => simp at h
  | succ k ih =>
    simp only [zr] at h ⊢
    split
    · rename_i h0
      rw [if_pos h0] at h
      have := ih (i + 1) (by omega)
      rwa [show i + 1 + zr g k (i + 1) = i + (1 + zr g k (i + 1)) by omega] at this
    · rename_i h0
      exact h0
theorem run_le (g : Nat → Nat) (i : Nat) : i ≤ 8 → i + run g i ≤ 8 := by
  intro h
  have := zr_le g (8 - i) i
  unfold run
  omega
theorem run_zero {g : Nat → Nat} {i j : Nat} (h1 : i ≤ j) (h2 : j < i + run g i) : g j = 0 := by
  have := zr_zero g (8 - i) i (j - i) (by unfold run at h2; omega)
  rwa [show i + (j - i) = j by omega] at this
theorem run_stop {g : Nat → Nat} {i : Nat} (h : i + run g i < 8) : g (i + run g i) ≠ 0 := zr_stop g (8 - i) i (by unfold run at h; omega)
/-- a row of zeros that stands between its ends is the row -/
theorem run_eq {g : Nat → Nat} {i j : Nat} (h1 : i ≤ j) (h2 : j ≤ 8) (hz : ∀ t, i ≤ t → t < j → g t = 0) (hs : j = 8 ∨ g j ≠ 0) : run g i = j - i := by
  rcases Nat.lt_trichotomy (run g i) (j - i) with h | h | h
  · exact absurd (hz (i + run g i) (by omega) (by omega)) (run_stop (by omega))
  · exact h
  · have hr := run_le g i (by omega)
    rcases hs with rfl | hs
    · omega
    · exact absurd (run_zero h1 (by omega)) hs
/-- the longest row so far, of those that begin before i: where it begins and ends; 255 and 255: there is none -/
def bst (g : Nat → Nat) : Nat → Nat × Nat
  | 0 => (255, 255)
  | i + 1 => if 2 ≤ run g i ∧ (bst g i).2 - (bst g i).1 < run g i then (i, i + run g i) else bst g i
theorem bst_form (g : Nat → Nat) (i : Nat) (h : i ≤ 8) : ((bst g i).1 = 255 ∧ (bst g i).2 = 255) ∨ ((bst g i).1 + 2 ≤ (bst g i).2 ∧ (bst g i).2 ≤ 8 ∧ (bst g i).2 = (bst g i).1 + run g (bst g i).1) := by
  induction i with
  | zero => exact .inl ⟨rfl, rfl⟩
  | succ i ih =>
    simp only [bst]
    split
    · rename_i hc
      have := run_le g i (by omega)
      exact .inr ⟨by simp; omega, by simpa using this, rfl⟩
    · exact ih (by omega)
/-- k groups from a on, with colons between -/
def jn (g : Nat → Nat) (a : Nat) : Nat → List UInt8
  | 0 => []
  | k + 1 => jn g a k ++ ((if k = 0 then [] else [58]) ++ hx (g (a + k)))
theorem jn_len (g : Nat → Nat) (a k : Nat) : (jn g a k).length ≤ 5 * k := by
  induction k with
  | zero => simp [jn]
  | succ k ih =>
    simp only [jn, List.length_append]
    have := hx_len (g (a + k))
    split <;> simp <;> omega
/-- the text of eight groups -/
def long (g : Nat → Nat) : List UInt8 := if (bst g 8).1 = 255 then jn g 0 8 else jn g 0 (bst g 8).1 ++ 58 :: 58 :: jn g (bst g 8).2 (8 - (bst g 8).2)
/-- what has been written before the group i: none of the row's inside -/
def part6 (g : Nat → Nat) (s e i : Nat) : List UInt8 := if i ≤ s then jn g 0 i else jn g 0 s ++ 58 :: 58 :: jn g e (i - e)
theorem part6_len (g : Nat → Nat) (s e i : Nat) (hi : i ≤ 8) : (part6 g s e i).length ≤ 100 := by
  unfold part6
  split
  · have := jn_len g 0 i; omega
  · have h1 := jn_len g 0 s
    have h2 := jn_len g e (i - e)
    simp
    omega
end Go.Proofs.YtjepkkfpgmgnjaaDoor
