/-
  Plain facts for the law FnColons: the text with '::' for a row of groups, written group by group, and the bytes with these groups zeros. No condition.
-/
import Derived.Test.YtkmjejgeeghjmaaDoorWMixedForm
namespace Go.Proofs.YtkmjejgeeghjmaaDoor
open Go.RowKit
set_option linter.unusedVariables false

theorem jt_last {tx : Nat → List UInt8} (hx : ∀ i, ∃ l d, tx i = l ++ [d] ∧ d ≠ 58) (a k : Nat) (h : k ≠ 0) : ∃ l d, jt tx a k = l ++ [d] ∧ d ≠ 58 := by
  rcases k with _ | k
  · exact absurd rfl h
  · obtain ⟨l, d, e, hd⟩ := hx (a + k)
    rw [jt, e]
    exact ⟨jt tx a k ++ ((if k = 0 then [] else [58]) ++ l), d, by simp, hd⟩
theorem txh_last (xs : List UInt8) (i : Nat) : ∃ l d, txh xs i = l ++ [d] ∧ d ≠ 58 := by
  have e : ∀ a b : UInt8, hex [a, b] = [dg (a.toNat / 16), dg (a.toNat % 16), dg (b.toNat / 16)] ++ [dg (b.toNat % 16)] := fun _ _ => rfl
  unfold txh
  rw [e]
  exact ⟨_, _, rfl, dg_ne58 _⟩
/-- what has been written before the group k -/
def colS (tx : Nat → List UInt8) (f m k : Nat) : List UInt8 := if k ≤ f then jt tx 0 k else jt tx 0 f ++ 58 :: 58 :: jt tx (f + m) (k - (f + m))
theorem colS_key {tx : Nat → List UInt8} (hx : ∀ i, ∃ l d, tx i = l ++ [d] ∧ d ≠ 58) (pre : List UInt8) (a j : Nat) (hp : pre = [] ∨ ∃ l, pre = l ++ [58]) :
    pre ++ jt tx a (j + 1) = pre ++ jt tx a j ++ ((if wantC (pre ++ jt tx a j) then [58] else []) ++ tx (a + j)) := by
  rw [jt, List.append_assoc]
  congr 2
  by_cases hj : j = 0
  · subst hj
    rw [if_pos rfl]
    simp only [jt, List.append_nil]
    rcases hp with rfl | ⟨l, rfl⟩
    · rfl
    · rw [wantC_snoc]; rfl
  · obtain ⟨l, d, e, hd⟩ := jt_last hx a j hj
    rw [if_neg hj, e, ← List.append_assoc, wantC_snoc, if_pos (by simpa using hd)]
theorem colS_next {tx : Nat → List UInt8} (hx : ∀ i, ∃ l d, tx i = l ++ [d] ∧ d ≠ 58) {f m k : Nat} (hm : 1 ≤ m) (h : k < f ∨ f + m ≤ k) : colS tx f m (k + 1) = colS tx f m k ++ ((if wantC (colS tx f m k) then [58] else []) ++ tx k) := by
  by_cases h1 : k < f
  · have e1 : colS tx f m (k + 1) = jt tx 0 (k + 1) := by unfold colS; rw [if_pos (by omega)]
    have e2 : colS tx f m k = jt tx 0 k := by unfold colS; rw [if_pos (by omega)]
    rw [e1, e2]
    have := colS_key hx [] 0 k (.inl rfl)
    simpa using this
  · have e1 : colS tx f m (k + 1) = (jt tx 0 f ++ [58, 58]) ++ jt tx (f + m) (k - (f + m) + 1) := by
      unfold colS; rw [if_neg (by omega), show k + 1 - (f + m) = k - (f + m) + 1 by omega]; simp
    have e2 : colS tx f m k = (jt tx 0 f ++ [58, 58]) ++ jt tx (f + m) (k - (f + m)) := by
      unfold colS; rw [if_neg (by omega)]; simp
    rw [e1, e2]
    have := colS_key hx (jt tx 0 f ++ [58, 58]) (f + m) (k - (f + m)) (.inr ⟨jt tx 0 f ++ [58], by simp⟩)
    rwa [show f + m + (k - (f + m)) = k by omega] at this
theorem colS_gap (tx : Nat → List UInt8) (f m : Nat) (hm : 1 ≤ m) : colS tx f m (f + 1) = colS tx f m f ++ [58, 58] := by
  unfold colS
  rw [if_neg (by omega), if_pos (Nat.le_refl _), show f + 1 - (f + m) = 0 by omega]
  simp [jt]
theorem colS_stay (tx : Nat → List UInt8) (f m k : Nat) (h1 : f < k) (h2 : k < f + m) : colS tx f m (k + 1) = colS tx f m k := by
  unfold colS
  rw [if_neg (by omega), if_neg (by omega), show k + 1 - (f + m) = 0 by omega, show k - (f + m) = 0 by omega]
theorem jth_len (xs : List UInt8) (a k : Nat) : (jt (txh xs) a k).length ≤ 5 * k := by
  induction k with
  | zero => simp [jt]
  | succ k ih =>
    rw [jt]
    have := txh_len xs (a + k)
    simp only [List.length_append]
    split <;> simp only [List.length_nil, List.length_cons] <;> omega
theorem colS_len (xs : List UInt8) (f m k : Nat) (hk : k ≤ 8) (hf : f ≤ 7) : (colS (txh xs) f m k).length ≤ 100 := by
  unfold colS
  split
  · have := jth_len xs 0 k; omega
  · have h1 := jth_len xs 0 f
    have h2 := jth_len xs (f + m) (k - (f + m))
    simp; omega
/-- the bytes with the groups of the row before the group k zeros -/
def zg (xs : List UInt8) (f m : Nat) : Nat → List UInt8
  | 0 => xs
  | k + 1 => if f ≤ k ∧ k < f + m then ((zg xs f m k).set (2 * k) 0).set (2 * k + 1) 0 else zg xs f m k
theorem zg_len (xs : List UInt8) (f m k : Nat) : (zg xs f m k).length = xs.length := by
  induction k with
  | zero => rfl
  | succ k ih => unfold zg; split <;> simp [ih]
theorem zg_in {xs : List UInt8} {f m k : Nat} (h1 : f ≤ k) (h2 : k < f + m) : zg xs f m (k + 1) = ((zg xs f m k).set (2 * k) 0).set (2 * k + 1) 0 := by rw [zg, if_pos ⟨h1, h2⟩]
theorem zg_out {xs : List UInt8} {f m k : Nat} (h : k < f ∨ f + m ≤ k) : zg xs f m (k + 1) = zg xs f m k := by rw [zg, if_neg (by omega)]
theorem zg_get (xs : List UInt8) (f m k j : Nat) (hj : j < xs.length) : (zg xs f m k).getD j 0 = if f ≤ j / 2 ∧ j / 2 < f + m ∧ j / 2 < k then 0 else xs.getD j 0 := by
  induction k with
  | zero => rw [if_neg (by omega)]; rfl
  | succ k ih =>
    by_cases hk : f ≤ k ∧ k < f + m
    · rw [zg_in hk.1 hk.2, List.getD_eq_getElem?_getD, List.getElem?_set, List.getElem?_set]
      have hl := zg_len xs f m k
      simp only [List.length_set]
      by_cases e1 : 2 * k + 1 = j
      · rw [if_pos e1, if_pos (by omega), if_pos (by omega)]; rfl
      · rw [if_neg e1]
        by_cases e2 : 2 * k = j
        · rw [if_pos e2, if_pos (by omega), if_pos (by omega)]; rfl
        · rw [if_neg e2, ← List.getD_eq_getElem?_getD, ih]
          by_cases hc : f ≤ j / 2 ∧ j / 2 < f + m ∧ j / 2 < k
          · rw [if_pos hc, if_pos (by omega)]
          · rw [if_neg hc, if_neg (by omega)]
    · rw [zg_out (by omega), ih]
      by_cases hc : f ≤ j / 2 ∧ j / 2 < f + m ∧ j / 2 < k
      · rw [if_pos hc, if_pos (by omega)]
      · rw [if_neg hc, if_neg (by omega)]
theorem zg_txh (xs : List UInt8) (h : xs.length = 16) (f m k : Nat) (hk : k < 8) : hex (((zg xs f m k).drop (2 * k)).take 2) = txh xs k := by
  rw [txh_cut (zg xs f m k) (by rw [zg_len]; exact h) k hk]
  unfold txh
  rw [zg_get _ _ _ _ _ (by omega), zg_get _ _ _ _ _ (by omega), if_neg (by omega), if_neg (by omega)]
theorem reads_col (xs : List UInt8) (h : xs.length = 16) (f m : Nat) (hm : 1 ≤ m) (hf : f + m ≤ 8) : Reads (colS (txh xs) f m 8) (zg xs f m 8) := by
  have hl : (zg xs f m 8).length = 16 := by rw [zg_len]; exact h
  have e : colS (txh xs) f m 8 = jt (txh xs) 0 f ++ 58 :: 58 :: jt (txh xs) (f + m) (8 - (f + m)) := by unfold colS; rw [if_neg (by omega)]
  have hg : ∀ i, i < 8 → (i < f ∨ f + m ≤ i) → gr (zg xs f m 8) i = gr xs i := by
    intro i hi hio
    rw [gr_at _ hl i hi, gr_at _ h i hi, zg_get _ _ _ _ _ (by omega), zg_get _ _ _ _ _ (by omega), if_neg (by omega), if_neg (by omega)]
  have hz : ∀ i, f ≤ i → i < f + m → gr (zg xs f m 8) i = 0 := by
    intro i h1 h2
    rw [gr_at _ hl i (by omega), zg_get _ _ _ _ _ (by omega), zg_get _ _ _ _ _ (by omega), if_pos (by omega), if_pos (by omega)]
    rfl
  have := t6_gap (dot := false) (txh xs) (gr (zg xs f m 8)) f (f + m) (fun i hi hio => by rw [hg i hi hio]; exact txh_grp xs h i hi) (by omega) hf hz
  rw [bv_gr _ hl, ← e] at this
  exact .inl ⟨false, this⟩
theorem want_cases' (l : List UInt8) : (l = [] ∧ wantC l = false) ∨ (∃ h : l.length - 1 < (⟨l.toArray⟩ : ByteArray).size, l ≠ [] ∧ (!l.isEmpty) = true ∧ 1 ≤ (l.length : Int) ∧ ((((⟨l.toArray⟩ : ByteArray)[l.length - 1]'h).toNat : Int) != 58) = wantC l) := by
  rcases (show l = [] ∨ ∃ t d, l = t ++ [d] from by
    rcases List.eq_nil_or_concat l with h | ⟨t, d, h⟩
    · exact .inl h
    · exact .inr ⟨t, d, by rw [h, List.concat_eq_append]⟩) with rfl | ⟨t, d, rfl⟩
  · exact .inl ⟨rfl, rfl⟩
  · refine .inr ⟨by simp [ByteArray.size], by simp, by cases t <;> rfl, by simp; omega, ?_⟩
    have e : (⟨(t ++ [d]).toArray⟩ : ByteArray)[(t ++ [d]).length - 1]'(by simp [ByteArray.size]) = d := by
      show (t ++ [d])[(t ++ [d]).length - 1]'(by simp) = d
      simp
    rw [e, wantC_snoc]
    by_cases hd : d = 58
    · subst hd; rfl
    · exact (u8nen (y := 58) hd).trans (by simpa using hd)
end Go.Proofs.YtkmjejgeeghjmaaDoor
