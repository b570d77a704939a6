/-
  Plain facts: a text is read to one address alone, so two addresses with one text are the same. No condition.
-/
import Derived.Test.YtkmjejgeeghjmaaDoorParseP
namespace Go.Proofs.YtkmjejgeeghjmaaDoor
open Go.RowKit
set_option linter.unusedVariables false

/-- the number of a small hexadecimal digit -/
def hv (c : UInt8) : Option Nat := (List.range 16).find? fun k => dg k == c
theorem hv_dg (k : Nat) (h : k < 16) : hv (dg k) = some k := by
  have : ∀ k : Fin 16, hv (dg k.val) = some k.val := by decide +kernel
  exact this ⟨k, h⟩
theorem hv_58 : hv 58 = none := by decide +kernel
/-- the digits at the front of a text, and the rest -/
def tk : List UInt8 → List Nat × List UInt8
  | [] => ([], [])
  | c :: r => match hv c with
    | some d => (d :: (tk r).1, (tk r).2)
    | none => ([], c :: r)
theorem tk_digs (ds : List Nat) (h : ∀ d ∈ ds, d < 16) (r : List UInt8) (hr : r = [] ∨ ∃ t, r = 58 :: t) : tk (ds.map dg ++ r) = (ds, r) := by
  induction ds with
  | nil =>
    rcases hr with rfl | ⟨t, rfl⟩
    · rfl
    · simp [tk, hv_58]
  | cons d ds ih =>
    have := ih (fun x hx => h x (by simp [hx]))
    simp only [List.map_cons, List.cons_append, tk, hv_dg d (h d (by simp)), this]
/-- the address of the bytes, '::' at a place -/
def fin (b : List UInt8) (ell : Option Nat) : List UInt8 := match ell with
  | none => b
  | some e => b.take e ++ (List.replicate (16 - b.length) 0 ++ b.drop e)
theorem Fin6.eq {b : List UInt8} {ell : Option Nat} {out : List UInt8} (h : Fin6 b ell out) : out = fin b ell := by
  rcases h with ⟨_, rfl, rfl⟩ | ⟨_, e, rfl, _, rfl⟩
  · rfl
  · rfl
/-- the address of a text, for texts that are read -/
def p6f : Nat → List UInt8 → List UInt8 → Option Nat → List UInt8
  | 0, _, _, _ => []
  | f + 1, s, acc, ell => match (tk s).2 with
    | [] => fin (acc ++ two (val (tk s).1)) ell
    | 58 :: 58 :: r => if r = [] then fin (acc ++ two (val (tk s).1)) (some (acc.length + 2)) else p6f f r (acc ++ two (val (tk s).1)) (some (acc.length + 2))
    | _ :: r => p6f f r (acc ++ two (val (tk s).1)) ell
theorem P6.eq {s acc out : List UInt8} {ell : Option Nat} {d : Bool} (h : P6 d s acc ell out) : d = false → ∀ f, 16 ≤ acc.length + 2 * f → p6f f s acc ell = out := by
  induction h with
  | @last t v acc out ell hg ha hf =>
    intro _ f hl
    obtain ⟨ds, h1, h2, h3, rfl, rfl⟩ := hg
    obtain ⟨f, rfl⟩ : ∃ k, f = k + 1 := ⟨f - 1, by omega⟩
    have e := tk_digs ds h1 [] (.inl rfl)
    rw [List.append_nil] at e
    rw [p6f, e]
    exact hf.eq.symm
  | @next t r v acc out ell hg ha hr hc h ih =>
    intro hd f hl
    obtain ⟨ds, h1, h2, h3, rfl, rfl⟩ := hg
    obtain ⟨f, rfl⟩ : ∃ k, f = k + 1 := ⟨f - 1, by omega⟩
    rw [p6f, tk_digs ds h1 _ (.inr ⟨_, rfl⟩)]
    have := ih hd f (by simp [two]; omega)
    rcases r with _ | ⟨c, r⟩
    · exact absurd rfl hr
    · by_cases hc' : c = 58
      · subst hc'; simp at hc
      · simp only []
        split
        · rename_i heq; cases heq
        · rename_i heq; simp only [List.cons.injEq, true_and] at heq; exact absurd heq.1 hc'
        · rename_i heq; simp only [List.cons.injEq] at heq; rw [← heq.2]; exact this
  | @gap t r v acc out hg ha hr h ih =>
    intro hd f hl
    obtain ⟨ds, h1, h2, h3, rfl, rfl⟩ := hg
    obtain ⟨f, rfl⟩ : ∃ k, f = k + 1 := ⟨f - 1, by omega⟩
    rw [p6f, tk_digs ds h1 _ (.inr ⟨_, rfl⟩)]
    simp only []
    rw [if_neg hr]
    exact ih hd f (by simp [two]; omega)
  | @stop t v acc out hg ha hf =>
    intro hd f hl
    obtain ⟨ds, h1, h2, h3, rfl, rfl⟩ := hg
    obtain ⟨f, rfl⟩ : ∃ k, f = k + 1 := ⟨f - 1, by omega⟩
    rw [p6f, tk_digs ds h1 _ (.inr ⟨_, rfl⟩)]
    simp only []
    rw [if_pos trivial]
    exact hf.eq.symm
  | dots hd => intro h; rw [hd] at h; cases h
theorem P6.head {s acc out : List UInt8} {ell : Option Nat} {d : Bool} (h : P6 d s acc ell out) (hd : d = false) : s.head? ≠ some 58 := by
  have key : ∀ {t : List UInt8} {v : Nat} (r : List UInt8), Grp t v → (t ++ r).head? ≠ some 58 := by
    intro t v r hg
    have h1 := hg.ne
    have h2 := hg.clean
    rcases t with _ | ⟨c, t⟩
    · exact absurd rfl h1
    · have := (h2 c (by simp)).1
      simpa using this
  cases h with
  | last hg => have := key [] hg; simpa using this
  | next hg => exact key _ hg
  | gap hg => exact key _ hg
  | stop hg => exact key _ hg
  | dots h => rw [hd] at h; cases h
/-- the address of a text that is read -/
def t6f (s : List UInt8) : List UInt8 := match s with
  | 58 :: 58 :: r => if r = [] then List.replicate 16 0 else p6f 9 r [] (some 0)
  | s => p6f 9 s [] none
theorem T6.eq {s out : List UInt8} (h : T6 false s out) : t6f s = out := by
  cases h with
  | zeros => rfl
  | front hr h =>
    simp only [t6f]
    rw [if_neg hr]
    exact h.eq rfl 9 (by decide)
  | plain h =>
    unfold t6f
    split
    · exact absurd rfl (h.head rfl)
    · exact h.eq rfl 9 (by decide)
theorem long_inj {xs ys : List UInt8} (hx : xs.length = 16) (hy : ys.length = 16) (h : long (gr xs) = long (gr ys)) : xs = ys := by
  have h1 := (t6_long (dot := false) xs hx).eq
  have h2 := (t6_long (dot := false) ys hy).eq
  rw [← h1, h, h2]

/-- no colon in dotted decimal -/
theorem dec_digs (n : Nat) (h : n < 256) : ∀ c ∈ dec n, ∃ k, k < 10 ∧ c = dg k := by
  unfold dec
  intro c hc
  split at hc
  · simp only [List.mem_cons, List.not_mem_nil, or_false] at hc
    rcases hc with rfl | rfl | rfl
    · exact ⟨n / 100, by omega, rfl⟩
    · exact ⟨n / 10 % 10, by omega, rfl⟩
    · exact ⟨n % 10, by omega, rfl⟩
  · split at hc
    · simp only [List.mem_cons, List.not_mem_nil, or_false] at hc
      rcases hc with rfl | rfl
      · exact ⟨n / 10 % 10, by omega, rfl⟩
      · exact ⟨n % 10, by omega, rfl⟩
    · simp only [List.mem_cons, List.not_mem_nil, or_false] at hc
      subst hc
      exact ⟨n % 10, by omega, rfl⟩
theorem dec_clean (n : Nat) (h : n < 256) : ∀ c ∈ dec n, c ≠ 58 ∧ c ≠ 46 ∧ c ≠ 37 := by
  intro c hc
  obtain ⟨k, hk, rfl⟩ := dec_digs n h c hc
  exact dg_ne k (by omega)
theorem dot4_clean (xs : List UInt8) : ∀ c ∈ dot4 xs, c ≠ 58 ∧ c ≠ 37 := by
  intro c hc
  have h0 := dec_clean _ (xs.getD 0 0).toNat_lt
  have h1 := dec_clean _ (xs.getD 1 0).toNat_lt
  have h2 := dec_clean _ (xs.getD 2 0).toNat_lt
  have h3 := dec_clean _ (xs.getD 3 0).toNat_lt
  unfold dot4 at hc
  simp only [List.mem_append, List.mem_cons] at hc
  rcases hc with hc | rfl | hc | rfl | hc | rfl | hc
  · exact ⟨(h0 c hc).1, (h0 c hc).2.2⟩
  · decide
  · exact ⟨(h1 c hc).1, (h1 c hc).2.2⟩
  · decide
  · exact ⟨(h2 c hc).1, (h2 c hc).2.2⟩
  · decide
  · exact ⟨(h3 c hc).1, (h3 c hc).2.2⟩
theorem cut_at {a b r s : List UInt8} {x : UInt8} (ha : ∀ c ∈ a, c ≠ x) (hb : ∀ c ∈ b, c ≠ x) (h : a ++ x :: r = b ++ x :: s) : a = b ∧ r = s := by
  induction a generalizing b with
  | nil =>
    rcases b with _ | ⟨c, b⟩
    · simpa using h
    · simp only [List.nil_append, List.cons_append, List.cons.injEq] at h
      exact absurd h.1.symm (hb c (by simp))
  | cons c a ih =>
    rcases b with _ | ⟨d, b⟩
    · simp only [List.nil_append, List.cons_append, List.cons.injEq] at h
      exact absurd h.1 (ha c (by simp))
    · simp only [List.cons_append, List.cons.injEq] at h
      obtain ⟨e1, e2⟩ := ih (fun y hy => ha y (by simp [hy])) (fun y hy => hb y (by simp [hy])) h.2
      exact ⟨by rw [h.1, e1], e2⟩
def dval (l : List UInt8) : Nat := l.foldl (fun a c => a * 10 + (c.toNat - 48)) 0
theorem dg_dec10 (k : Nat) (h : k < 10) : (dg k).toNat = 48 + k := by
  have : ∀ k : Fin 10, (dg k.val).toNat = 48 + k.val := by decide +kernel
  exact this ⟨k, h⟩
theorem dval_dec (n : Nat) (h : n < 256) : dval (dec n) = n := by
  unfold dec
  split
  · simp only [dval, List.foldl]; rw [dg_dec10 _ (by omega), dg_dec10 _ (by omega), dg_dec10 _ (by omega)]; omega
  · split
    · simp only [dval, List.foldl]; rw [dg_dec10 _ (by omega), dg_dec10 _ (by omega)]; omega
    · simp only [dval, List.foldl]; rw [dg_dec10 _ (by omega)]; omega
theorem dec_inj {x y : UInt8} (h : dec x.toNat = dec y.toNat) : x = y := by
  have h1 := dval_dec _ x.toNat_lt
  have h2 := dval_dec _ y.toNat_lt
  apply UInt8.toNat_inj.mp
  rw [← h1, h, h2]
theorem dot4_inj {xs ys : List UInt8} (hx : xs.length = 4) (hy : ys.length = 4) (h : dot4 xs = dot4 ys) : xs = ys := by
  match xs, hx, ys, hy with
  | [x0, x1, x2, x3], _, [y0, y1, y2, y3], _ =>
    have cl : ∀ x : UInt8, ∀ c ∈ dec x.toNat, c ≠ 46 := fun x c hc => (dec_clean _ x.toNat_lt c hc).2.1
    simp only [dot4, List.getD_cons_zero, List.getD_cons_succ] at h
    obtain ⟨e0, h⟩ := cut_at (cl x0) (cl y0) h
    obtain ⟨e1, h⟩ := cut_at (cl x1) (cl y1) h
    obtain ⟨e2, h⟩ := cut_at (cl x2) (cl y2) h
    rw [dec_inj e0, dec_inj e1, dec_inj e2, dec_inj h]
theorem T6.colon {dot : Bool} {s out : List UInt8} (h : T6 dot s out) : ∃ t r, s = t ++ 58 :: r ∧ ∀ c ∈ t, c ≠ 58 ∧ c ≠ 46 ∧ c ≠ 37 := by
  cases h with
  | zeros => exact ⟨[], [58], rfl, by simp⟩
  | @front r _ hr h => exact ⟨[], 58 :: r, rfl, by simp⟩
  | plain h =>
    cases h with
    | last hg ha hf =>
      rcases hf with ⟨h1, _⟩ | ⟨_, e, h1, _⟩
      · simp [two] at h1
      · cases h1
    | next hg => exact ⟨_, _, rfl, hg.clean⟩
    | gap hg => exact ⟨_, _, rfl, hg.clean⟩
    | stop hg => exact ⟨_, _, rfl, hg.clean⟩
    | dots h1 h2 h3 => simp at h3
theorem long_colon (xs : List UInt8) (h : xs.length = 16) : 58 ∈ long (gr xs) := by
  obtain ⟨t, r, e, _⟩ := (t6_long (dot := false) xs h).colon
  rw [e]; simp
end Go.Proofs.YtkmjejgeeghjmaaDoor
