/-
  Plain facts on dotted decimal as the parser reads it, byte by byte; bytes that are put into a block. No condition.
-/
import Derived.Test.YtkmjejgeeghjmaaDoorFormsP
namespace Go.Proofs.YtkmjejgeeghjmaaDoor
open Go.RowKit
set_option linter.unusedVariables false

/-- the rest of dotted decimal, the number and the digits of the field so far, the fields so far, the address -/
inductive R4 : List UInt8 → Nat → Nat → List UInt8 → List UInt8 → Prop
  | digit {d : Nat} {r : List UInt8} {v k : Nat} {acc out : List UInt8} (hd : d < 10) (hz : k = 1 → v ≠ 0) (hv : v * 10 + d ≤ 255) (h : R4 r (v * 10 + d) (k + 1) acc out) : R4 (dg d :: r) v k acc out
  | dot {r : List UInt8} {v k : Nat} {acc out : List UInt8} (hk : 1 ≤ k) (hr : r ≠ []) (ha : acc.length < 3) (hv : v ≤ 255) (h : R4 r 0 0 (acc ++ [UInt8.ofNat v]) out) : R4 (46 :: r) v k acc out
  | fin {v k : Nat} {acc : List UInt8} (ha : acc.length = 3) (hv : v ≤ 255) : R4 [] v k acc (acc ++ [UInt8.ofNat v])
theorem r4_dec (n : Nat) (hn : n < 256) (rest acc out : List UInt8) (h : ∀ k, 1 ≤ k → R4 rest n k acc out) : R4 (dec n ++ rest) 0 0 acc out := by
  unfold dec
  by_cases h1 : 100 ≤ n
  · rw [if_pos h1]
    refine .digit (by omega) (by omega) (by omega) (.digit (by omega) (fun _ => by omega) (by omega) (.digit (by omega) (by omega) (by omega) ?_))
    have := h (0 + 1 + 1 + 1) (by omega)
    rwa [show ((0 * 10 + n / 100) * 10 + n / 10 % 10) * 10 + n % 10 = n by omega]
  · rw [if_neg h1]
    by_cases h2 : 10 ≤ n
    · rw [if_pos h2]
      refine .digit (by omega) (by omega) (by omega) (.digit (by omega) (fun _ => by omega) (by omega) ?_)
      have := h (0 + 1 + 1) (by omega)
      rwa [show (0 * 10 + n / 10 % 10) * 10 + n % 10 = n by omega]
    · rw [if_neg h2]
      refine .digit (by omega) (by omega) (by omega) ?_
      have := h (0 + 1) (by omega)
      rwa [show 0 * 10 + n % 10 = n by omega]
theorem dec_ne (n : Nat) : dec n ≠ [] := by
  unfold dec; split
  · simp
  · split <;> simp
theorem r4_dot4 (xs : List UInt8) (h : xs.length = 4) : R4 (dot4 xs) 0 0 [] xs := by
  match xs, h with
  | [x0, x1, x2, x3], _ =>
    have b0 := x0.toNat_lt
    have b1 := x1.toNat_lt
    have b2 := x2.toNat_lt
    have b3 := x3.toNat_lt
    simp only [dot4, List.getD_cons_zero, List.getD_cons_succ]
    refine r4_dec _ b0 _ _ _ fun k hk => .dot hk (by simp [dec_ne]) (by simp) (by omega) (r4_dec _ b1 _ _ _ fun k hk => .dot hk (by simp [dec_ne]) (by simp) (by omega) (r4_dec _ b2 _ _ _ fun k hk => .dot hk (by simp [dec_ne]) (by simp) (by omega) ?_))
    have := r4_dec x3.toNat b3 [] ([] ++ [UInt8.ofNat x0.toNat] ++ [UInt8.ofNat x1.toNat] ++ [UInt8.ofNat x2.toNat]) [x0, x1, x2, x3] (fun k hk => by
      have := R4.fin (v := x3.toNat) (k := k) (acc := [] ++ [UInt8.ofNat x0.toNat] ++ [UInt8.ofNat x1.toNat] ++ [UInt8.ofNat x2.toNat]) (by simp) (by omega)
      simpa using this)
    simpa using this
theorem drop_cons {l r : List UInt8} {i : Nat} {c : UInt8} (h : l.drop i = c :: r) : ∃ hi : i < l.length, l[i] = c ∧ l.drop (i + 1) = r := by
  have hi : i < l.length := by
    rcases Nat.lt_or_ge i l.length with h' | h'
    · exact h'
    · rw [List.drop_of_length_le h'] at h; cases h
  refine ⟨hi, ?_, ?_⟩
  · rw [List.drop_eq_getElem_cons hi] at h; injection h
  · rw [List.drop_eq_getElem_cons hi] at h; injection h
theorem drop_nil {l : List UInt8} {i : Nat} (h : l.drop i = []) : l.length ≤ i := by
  rcases Nat.lt_or_ge i l.length with h' | h'
  · rw [List.drop_eq_getElem_cons h'] at h; cases h
  · exact h'

/-- bytes put into a block, one after the other -/
def putB (w : World) (B o : Nat) : List UInt8 → World
  | [] => w
  | x :: r => putB (w.setCell ⟨B, o, none⟩ (.int .u8 (x.toNat : Int))) B (o + 1) r
theorem putB_snoc (w : World) (B o : Nat) (l : List UInt8) (x : UInt8) : putB w B o (l ++ [x]) = (putB w B o l).setCell ⟨B, o + l.length, none⟩ (.int .u8 (x.toNat : Int)) := by
  induction l generalizing w o with
  | nil => rfl
  | cons y l ih => rw [List.cons_append, putB, putB, ih, List.length_cons, show o + 1 + l.length = o + (l.length + 1) by omega]
theorem putB_below {base : Nat} {w0 w : World} {B : Nat} (h : Below base w0 w) (hB : base ≤ B) (o : Nat) (l : List UInt8) : Below base w0 (putB w B o l) := by
  induction l generalizing w o with
  | nil => exact h
  | cons x l ih => exact ih (h.setCell (p := ⟨B, o, none⟩) hB _) (o + 1)
theorem putB_other (w : World) (B o : Nat) (l : List UInt8) (a : Addr) (h : a.block ≠ B) : (putB w B o l).cell? a = w.cell? a := by
  induction l generalizing w o with
  | nil => rfl
  | cons x l ih =>
    rw [putB, ih]
    exact World.cell?_setCell_other _ _ _ _ (fun e => h (by rw [← e]))
theorem putB_size (w : World) (B o : Nat) (l : List UInt8) : (putB w B o l).heap.size = w.heap.size := by
  induction l generalizing w o with
  | nil => rfl
  | cons x l ih => rw [putB, ih]; simp
theorem putB_own {w : World} {base B n o : Nat} {e : TypeId} {xs : List UInt8} (h : w.ownsRow base e 1 (.slice (some ⟨B, 0, none⟩) n n) xs.length (cb xs)) (hn : xs.length = n) (l : List UInt8) (hl : o + l.length ≤ n) :
    (putB w B o l).ownsRow base e 1 (.slice (some ⟨B, 0, none⟩) n n) (xs.take o ++ (l ++ xs.drop (o + l.length))).length (cb (xs.take o ++ (l ++ xs.drop (o + l.length)))) := by
  induction l generalizing w o xs with
  | nil => simpa [putB] using h
  | cons x l ih =>
    simp only [List.length_cons] at hl
    have h1 := own_store h (j := o) x hn
    have h2 := ih (w := w.setCell ⟨B, o, none⟩ (.int .u8 (x.toNat : Int))) (o := o + 1) h1 (by simpa using hn) (by omega)
    rw [putB]
    have e1 : (xs.set o x).take (o + 1) ++ (l ++ (xs.set o x).drop (o + 1 + l.length)) = xs.take o ++ (x :: l ++ xs.drop (o + (x :: l).length)) := by
      rw [List.drop_set_of_lt (by omega), List.take_succ_eq_append_getElem (by simp; omega), List.take_set_of_le (Nat.le_refl _), List.getElem_set_self, List.length_cons, show o + 1 + l.length = o + (l.length + 1) by omega]
      simp
    rw [e1] at h2
    exact h2
theorem putB_cell {w : World} {base B n o : Nat} {e : TypeId} {xs : List UInt8} (h : w.ownsRow base e 1 (.slice (some ⟨B, 0, none⟩) n n) xs.length (cb xs)) (hn : xs.length = n) (l : List UInt8) (hl : o + l.length < n) :
    ∃ z, (putB w B o l).cell? ⟨B, o + l.length, none⟩ = some z ∧ (putB w B o l).frozen? ⟨B, o + l.length, none⟩ = false := by
  have own1 := putB_own (o := o) h hn l (by omega)
  have hl1 : (xs.take o ++ (l ++ xs.drop (o + l.length))).length = n := by simp; omega
  exact ⟨_, own_cell (j := o + l.length) own1 (by rw [hl1]; omega) hl1, own_frozen own1 (o + l.length) hl1⟩
end Go.Proofs.YtkmjejgeeghjmaaDoor
