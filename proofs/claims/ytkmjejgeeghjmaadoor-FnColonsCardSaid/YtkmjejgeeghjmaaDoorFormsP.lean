/-
  Plain facts on texts of addresses: what stands in a text that is read; zeros at a group's front; six groups and dotted decimal. No condition.
-/
import Derived.Test.YtkmjejgeeghjmaaDoorTextP
namespace Go.Proofs.YtkmjejgeeghjmaaDoor
open Go.RowKit
set_option linter.unusedVariables false

theorem dot4_len (xs : List UInt8) : (dot4 xs).length ≤ 15 := by
  have h0 := dec_len (xs.getD 0 0).toNat
  have h1 := dec_len (xs.getD 1 0).toNat
  have h2 := dec_len (xs.getD 2 0).toNat
  have h3 := dec_len (xs.getD 3 0).toNat
  simp only [dot4, List.length_append, List.length_cons]
  omega
theorem P6.len {dot : Bool} {s acc out : List UInt8} {ell : Option Nat} (h : P6 dot s acc ell out) : s.length ≤ 3 * (16 - acc.length) + 15 := by
  induction h with
  | last hg => have := hg.len; omega
  | next hg ha hr hc h ih => have := hg.len; simp [two] at ih ⊢; omega
  | gap hg ha hr h ih => have := hg.len; simp [two] at ih ⊢; omega
  | stop hg => have := hg.len; simp; omega
  | @dots xs acc out hd hx ha ho => have := dot4_len xs; omega
theorem T6.len {dot : Bool} {s out : List UInt8} (h : T6 dot s out) : s.length ≤ 65 := by
  cases h with
  | zeros => simp
  | front hr h => have := h.len; simp at this ⊢; omega
  | plain h => have := h.len; simp at this; omega
theorem P6.clean {dot : Bool} {s acc out : List UInt8} {ell : Option Nat} (h : P6 dot s acc ell out) : ∀ c ∈ s, c ≠ 37 := by
  induction h with
  | last hg => exact fun c hc => (hg.clean c hc).2.2
  | next hg ha hr hc h ih =>
    intro c hc
    simp only [List.mem_append, List.mem_cons] at hc
    rcases hc with hc | rfl | hc
    · exact (hg.clean c hc).2.2
    · decide
    · exact ih c hc
  | gap hg ha hr h ih =>
    intro c hc
    simp only [List.mem_append, List.mem_cons] at hc
    rcases hc with hc | rfl | rfl | hc
    · exact (hg.clean c hc).2.2
    · decide
    · decide
    · exact ih c hc
  | stop hg =>
    intro c hc
    simp only [List.mem_append, List.mem_cons, List.not_mem_nil, or_false] at hc
    rcases hc with hc | rfl | rfl
    · exact (hg.clean c hc).2.2
    · decide
    · decide
  | @dots xs acc out hd hx ha ho => exact fun c hc => (dot4_clean xs c hc).2
theorem T6.clean {dot : Bool} {s out : List UInt8} (h : T6 dot s out) : (37 : UInt8) ∉ s := by
  intro hc
  cases h with
  | zeros => simp at hc
  | front hr h =>
    simp only [List.mem_cons] at hc
    rcases hc with hc | hc | hc
    · cases hc
    · cases hc
    · exact h.clean _ hc rfl
  | plain h => exact h.clean _ hc rfl
theorem P6.out {dot : Bool} {s acc out : List UInt8} {ell : Option Nat} (h : P6 dot s acc ell out) (he : ∀ e, ell = some e → e ≤ acc.length) : out.length = 16 := by
  have key : ∀ {b : List UInt8} {ell : Option Nat} {out : List UInt8}, Fin6 b ell out → out.length = 16 := by
    intro b ell out h
    rcases h with ⟨h1, _, rfl⟩ | ⟨h1, e, _, h3, rfl⟩
    · exact h1
    · simp; omega
  induction h with
  | last hg ha hf => exact key hf
  | next hg ha hr hc h ih => exact ih (fun e h => by have := he e h; simp; omega)
  | gap hg ha hr h ih => exact ih (fun e h => by injection h with h; subst h; simp [two])
  | stop hg ha hf => exact key hf
  | dots hd hx ha ho => subst ho; simp [hx, ha]
theorem T6.out {dot : Bool} {s out : List UInt8} (h : T6 dot s out) : out.length = 16 := by
  cases h with
  | zeros => rfl
  | front hr h => exact h.out (fun e he => by injection he with he; omega)
  | plain h => exact h.out (fun e he => by cases he)

/-- a text without up to n zeros at its front -/
def cutz : Nat → List UInt8 → List UInt8
  | 0, l => l
  | n + 1, l => if l.head? = some 48 then cutz n l.tail else l
theorem cutz_yes (n : Nat) (r : List UInt8) : cutz (n + 1) (48 :: r) = cutz n r := by simp [cutz]
theorem cutz_no (n : Nat) {c : UInt8} (r : List UInt8) (h : c ≠ 48) : cutz n (c :: r) = c :: r := by
  cases n with
  | zero => rfl
  | succ n => simp [cutz, h]
theorem grp_cutz {l : List UInt8} {v : Nat} (n : Nat) (h : Grp l v) (hn : n < l.length) : Grp (cutz n l) v := by
  induction n generalizing l with
  | zero => exact h
  | succ n ih =>
    rcases l with _ | ⟨c, r⟩
    · simp at hn
    · by_cases hc : c = 48
      · subst hc
        rw [cutz_yes]
        simp at hn
        exact ih (grp_drop h (by intro e; subst e; simp at hn)) (by omega)
      · rw [cutz_no _ _ hc]; exact h
theorem cutz_len (n : Nat) (l : List UInt8) : (cutz n l).length ≤ l.length := by
  induction n generalizing l with
  | zero => exact Nat.le_refl _
  | succ n ih =>
    unfold cutz
    split
    · have := ih l.tail; simp at this; omega
    · exact Nat.le_refl _

/-- texts with a colon behind each -/
def pt (tx : Nat → List UInt8) (a : Nat) : Nat → List UInt8
  | 0 => []
  | k + 1 => pt tx a k ++ (tx (a + k) ++ [58])
theorem pt_cons (tx : Nat → List UInt8) (a k : Nat) : pt tx a (k + 1) = tx a ++ 58 :: pt tx (a + 1) k := by
  induction k with
  | zero => simp [pt]
  | succ k ih => rw [pt, ih, pt, show a + (k + 1) = a + 1 + k by omega]; simp
theorem dot4_front (xs : List UInt8) : dot4 xs ≠ [] ∧ (dot4 xs).head? ≠ some 58 := by
  have h := dot4_clean xs
  rcases hd : dot4 xs with _ | ⟨c, r⟩
  · have : 46 ∈ dot4 xs := by unfold dot4; simp
    rw [hd] at this
    simp at this
  · refine ⟨by simp, ?_⟩
    have := (h c (by rw [hd]; simp)).1
    simpa using this
theorem p6_pt (tx : Nat → List UInt8) (v : Nat → Nat) (k a : Nat) (acc f : List UInt8) (hg : ∀ i, a ≤ i → i < a + k → Grp (tx i) (v i)) (hl : acc.length + 2 * k = 12) (hf : f.length = 4) : P6 true (pt tx a k ++ dot4 f) acc none (acc ++ (bv v a k ++ f)) := by
  induction k generalizing a acc with
  | zero => exact .dots rfl hf (by simpa using hl) (by simp [bv])
  | succ k ih =>
    rw [pt_cons, List.append_assoc, List.cons_append]
    have h2 := ih (a + 1) (acc ++ two (v a)) (fun i h1 h2 => hg i (by omega) (by omega)) (by simp [two]; omega)
    rw [List.append_assoc, ← List.append_assoc (two (v a)), show two (v a) ++ bv v (a + 1) k = bv v a (k + 1) from rfl] at h2
    have hh : pt tx (a + 1) k ++ dot4 f ≠ [] ∧ (pt tx (a + 1) k ++ dot4 f).head? ≠ some 58 := by
      rcases k with _ | k
      · simpa [pt] using dot4_front f
      · rw [pt_cons]
        have g := hg (a + 1) (by omega) (by omega)
        have h1 := g.ne
        have h2 := g.clean
        rcases h : tx (a + 1) with _ | ⟨c, t⟩
        · exact absurd h h1
        · refine ⟨by simp, ?_⟩
          have := (h2 c (by rw [h]; simp)).1
          simpa using this
    exact .next (hg a (by omega) (by omega)) (by omega) hh.1 hh.2 h2
/-- six groups and dotted decimal -/
theorem t6_mixed (tx : Nat → List UInt8) (v : Nat → Nat) (f : List UInt8) (hg : ∀ i, i < 6 → Grp (tx i) (v i)) (hf : f.length = 4) : T6 true (pt tx 0 6 ++ dot4 f) (bv v 0 6 ++ f) :=
  .plain (by simpa using p6_pt tx v 6 0 [] f (fun i _ h => hg i (by omega)) (by simp) hf)
end Go.Proofs.YtkmjejgeeghjmaaDoor
