/-
  Plain facts on the texts of addresses that the parser of net/netip reads: groups of one to four small hexadecimal digits with colons between, '::' once, dotted decimal at the end. No condition.
-/
import Derived.Test.YtkmjejgeeghjmaaDoorGroupP
namespace Go.Proofs.YtkmjejgeeghjmaaDoor
open Go.RowKit
set_option linter.unusedVariables false

/-- the number of a row of digits -/
def val (ds : List Nat) : Nat := ds.foldl (fun a d => a * 16 + d) 0
/-- a text of one to four small hexadecimal digits, and its number -/
def Grp (t : List UInt8) (v : Nat) : Prop := ∃ ds : List Nat, (∀ d ∈ ds, d < 16) ∧ 1 ≤ ds.length ∧ ds.length ≤ 4 ∧ t = ds.map dg ∧ v = val ds
theorem grp_hx (n : Nat) (h : n < 65536) : Grp (hx n) n := by
  unfold hx
  by_cases h1 : 4096 ≤ n
  · rw [if_pos h1]; exact ⟨[n / 4096, n / 256 % 16, n / 16 % 16, n % 16], by simp; omega, by simp, by simp, rfl, by simp [val]; omega⟩
  · rw [if_neg h1]
    by_cases h2 : 256 ≤ n
    · rw [if_pos h2]; exact ⟨[n / 256 % 16, n / 16 % 16, n % 16], by simp; omega, by simp, by simp, rfl, by simp [val]; omega⟩
    · rw [if_neg h2]
      by_cases h3 : 16 ≤ n
      · rw [if_pos h3]; exact ⟨[n / 16 % 16, n % 16], by simp; omega, by simp, by simp, rfl, by simp [val]; omega⟩
      · rw [if_neg h3]; exact ⟨[n % 16], by simp; omega, by simp, by simp, rfl, by simp [val]; omega⟩
theorem grp_hex (a b : UInt8) : Grp (hex [a, b]) (a.toNat * 256 + b.toNat) := by
  have ha := a.toNat_lt
  have hb := b.toNat_lt
  exact ⟨[a.toNat / 16, a.toNat % 16, b.toNat / 16, b.toNat % 16], by simp; omega, by simp, by simp, rfl, by simp [val]; omega⟩
theorem grp_drop {t : List UInt8} {v : Nat} (h : Grp (48 :: t) v) (ht : t ≠ []) : Grp t v := by
  obtain ⟨ds, h1, h2, h3, h4, h5⟩ := h
  rcases ds with _ | ⟨d, ds⟩
  · simp at h2
  · simp only [List.map_cons, List.cons.injEq] at h4
    have hd : d = 0 := (dg_zero (h1 d (by simp))).mp h4.1.symm
    subst hd
    refine ⟨ds, fun x hx => h1 x (by simp [hx]), ?_, by simp at h3; omega, h4.2, ?_⟩
    · rcases ds with _ | ⟨d, ds⟩
      · exact absurd h4.2 ht
      · simp
    · rw [h5]; simp [val]
theorem val_snoc (ds : List Nat) (d : Nat) : val (ds ++ [d]) = val ds * 16 + d := by simp [val]
theorem val_lt (ds : List Nat) (h : ∀ d ∈ ds, d < 16) : val ds < 16 ^ ds.length := by
  have key : ∀ (l : List Nat), (∀ d ∈ l, d < 16) → val l.reverse < 16 ^ l.length := by
    intro l
    induction l with
    | nil => intro _; simp [val]
    | cons d l ih =>
      intro h
      have h1 := ih (fun x hx => h x (by simp [hx]))
      have h2 := h d (by simp)
      rw [List.reverse_cons, val_snoc, List.length_cons, Nat.pow_succ]
      omega
  have := key ds.reverse (by simpa using h)
  simpa using this
theorem Grp.lt {t : List UInt8} {v : Nat} (h : Grp t v) : v < 65536 := by
  obtain ⟨ds, h1, h2, h3, h4, rfl⟩ := h
  have := val_lt ds h1
  have h5 : 16 ^ ds.length ≤ 16 ^ 4 := Nat.pow_le_pow_right (by decide) h3
  omega
theorem Grp.ne {t : List UInt8} {v : Nat} (h : Grp t v) : t ≠ [] := by
  obtain ⟨ds, h1, h2, h3, rfl, h5⟩ := h
  intro e
  rw [List.map_eq_nil_iff] at e
  subst e
  simp at h2
theorem Grp.len {t : List UInt8} {v : Nat} (h : Grp t v) : 1 ≤ t.length ∧ t.length ≤ 4 := by
  obtain ⟨ds, h1, h2, h3, rfl, h5⟩ := h
  simp only [List.length_map]
  exact ⟨h2, h3⟩
theorem dg_ne (k : Nat) (h : k < 16) : dg k ≠ 58 ∧ dg k ≠ 46 ∧ dg k ≠ 37 := by
  have : ∀ k : Fin 16, dg k.val ≠ 58 ∧ dg k.val ≠ 46 ∧ dg k.val ≠ 37 := by decide +kernel
  exact this ⟨k, h⟩
theorem Grp.clean {t : List UInt8} {v : Nat} (h : Grp t v) : ∀ c ∈ t, c ≠ 58 ∧ c ≠ 46 ∧ c ≠ 37 := by
  obtain ⟨ds, h1, h2, h3, rfl, h5⟩ := h
  intro c hc
  obtain ⟨d, hd, rfl⟩ := List.mem_map.mp hc
  exact dg_ne d (h1 d hd)

/-- a number below 65536 as two bytes -/
def two (v : Nat) : List UInt8 := [UInt8.ofNat (v / 256), UInt8.ofNat (v % 256)]
/-- what the bytes before the end of the text give: e: where '::' stood -/
def Fin6 (b : List UInt8) (ell : Option Nat) (out : List UInt8) : Prop :=
  (b.length = 16 ∧ ell = none ∧ out = b) ∨ (b.length < 16 ∧ ∃ e, ell = some e ∧ e ≤ b.length ∧ out = b.take e ++ (List.replicate (16 - b.length) 0 ++ b.drop e))
/-- what the parser reads: the rest of a text, the bytes so far, where '::' stood, the address -/
inductive P6 (dot : Bool) : List UInt8 → List UInt8 → Option Nat → List UInt8 → Prop
  | last {t : List UInt8} {v : Nat} {acc out : List UInt8} {ell : Option Nat} (hg : Grp t v) (ha : acc.length ≤ 14) (hf : Fin6 (acc ++ two v) ell out) : P6 dot t acc ell out
  | next {t r : List UInt8} {v : Nat} {acc out : List UInt8} {ell : Option Nat} (hg : Grp t v) (ha : acc.length ≤ 14) (hr : r ≠ []) (hc : r.head? ≠ some 58) (h : P6 dot r (acc ++ two v) ell out) : P6 dot (t ++ 58 :: r) acc ell out
  | gap {t r : List UInt8} {v : Nat} {acc out : List UInt8} (hg : Grp t v) (ha : acc.length ≤ 14) (hr : r ≠ []) (h : P6 dot r (acc ++ two v) (some (acc.length + 2)) out) : P6 dot (t ++ 58 :: 58 :: r) acc none out
  | stop {t : List UInt8} {v : Nat} {acc out : List UInt8} (hg : Grp t v) (ha : acc.length ≤ 14) (hf : Fin6 (acc ++ two v) (some (acc.length + 2)) out) : P6 dot (t ++ [58, 58]) acc none out
  | dots {xs acc out : List UInt8} (hd : dot = true) (hx : xs.length = 4) (ha : acc.length = 12) (ho : out = acc ++ xs) : P6 dot (dot4 xs) acc none out
/-- what the parser reads, from the text's beginning on -/
inductive T6 (dot : Bool) : List UInt8 → List UInt8 → Prop
  | zeros : T6 dot [58, 58] (List.replicate 16 0)
  | front {r out : List UInt8} (hr : r ≠ []) (h : P6 dot r [] (some 0) out) : T6 dot (58 :: 58 :: r) out
  | plain {s out : List UInt8} (h : P6 dot s [] none out) : T6 dot s out

/-- texts with colons between -/
def jt (tx : Nat → List UInt8) (a : Nat) : Nat → List UInt8
  | 0 => []
  | k + 1 => jt tx a k ++ ((if k = 0 then [] else [58]) ++ tx (a + k))
theorem jn_jt (g : Nat → Nat) (a k : Nat) : jn g a k = jt (fun i => hx (g i)) a k := by
  induction k with
  | zero => rfl
  | succ k ih => rw [jn_succ, jt, ih]
theorem jt_cons (tx : Nat → List UInt8) (a k : Nat) : jt tx a (k + 1) = tx a ++ (if k = 0 then [] else 58 :: jt tx (a + 1) k) := by
  induction k with
  | zero => simp [jt]
  | succ k ih =>
    rw [jt, ih, if_neg (Nat.succ_ne_zero k), if_neg (Nat.succ_ne_zero k)]
    by_cases hk : k = 0
    · subst hk; simp [jt]
    · rw [if_neg hk, show jt tx (a + 1) (k + 1) = jt tx (a + 1) k ++ ((if k = 0 then [] else [58]) ++ tx (a + 1 + k)) from rfl, if_neg hk, show a + (k + 1) = a + 1 + k by omega]
      simp
/-- the bytes of groups -/
def bv (v : Nat → Nat) (a : Nat) : Nat → List UInt8
  | 0 => []
  | k + 1 => two (v a) ++ bv v (a + 1) k
theorem bv_len (v : Nat → Nat) (a k : Nat) : (bv v a k).length = 2 * k := by
  induction k generalizing a with
  | zero => rfl
  | succ k ih => simp [bv, two, ih]; omega
theorem bv_add (v : Nat → Nat) (a j k : Nat) : bv v a (j + k) = bv v a j ++ bv v (a + j) k := by
  induction j generalizing a with
  | zero => simp [bv]
  | succ j ih =>
    rw [show j + 1 + k = (j + k) + 1 by omega, bv, bv, ih, List.append_assoc, show a + 1 + j = a + (j + 1) by omega]
theorem bv_zero (v : Nat → Nat) (a k : Nat) (h : ∀ i, i < k → v (a + i) = 0) : bv v a k = List.replicate (2 * k) 0 := by
  induction k generalizing a with
  | zero => rfl
  | succ k ih =>
    have h0 := h 0 (by omega)
    rw [bv, ih (a + 1) (fun i hi => by have := h (i + 1) (by omega); rwa [show a + (i + 1) = a + 1 + i by omega] at this)]
    simp only [Nat.add_zero] at h0
    rw [h0, show 2 * (k + 1) = 2 * k + 2 by omega, List.replicate_succ, List.replicate_succ]
    rfl
theorem bv_congr {v v' : Nat → Nat} {a k : Nat} (h : ∀ i, i < k → v (a + i) = v' (a + i)) : bv v a k = bv v' a k := by
  induction k generalizing a with
  | zero => rfl
  | succ k ih =>
    have h0 := h 0 (by omega)
    simp only [Nat.add_zero] at h0
    rw [bv, bv, h0, ih (fun i hi => by have := h (i + 1) (by omega); rwa [show a + (i + 1) = a + 1 + i by omega] at this)]
theorem bv_gr (xs : List UInt8) (h : xs.length = 16) : bv (gr xs) 0 8 = xs := by
  have e : bv (gr xs) 0 8 = bv (fun k => (xs.getD (2 * k) 0).toNat * 256 + (xs.getD (2 * k + 1) 0).toNat) 0 8 := bv_congr (fun i hi => by rw [Nat.zero_add]; exact gr_at xs h i hi)
  rw [e]
  have key : ∀ a b : UInt8, two (a.toNat * 256 + b.toNat) = [a, b] := by
    intro a b
    have ha := a.toNat_lt
    have hb := b.toNat_lt
    unfold two
    rw [show (a.toNat * 256 + b.toNat) / 256 = a.toNat by omega, show (a.toNat * 256 + b.toNat) % 256 = b.toNat by omega]
    simp
  match xs, h with
  | [x0, x1, x2, x3, x4, x5, x6, x7, x8, x9, x10, x11, x12, x13, x14, x15], _ =>
    simp [bv, key]

theorem head_jt (tx : Nat → List UInt8) (a k : Nat) (hk : k ≠ 0) {v : Nat} (hg : Grp (tx a) v) : jt tx a k ≠ [] ∧ (jt tx a k).head? ≠ some 58 := by
  rcases k with _ | k
  · exact absurd rfl hk
  · rw [jt_cons]
    have h1 := hg.ne
    have h2 := hg.clean
    rcases h : tx a with _ | ⟨c, t⟩
    · exact absurd h h1
    · refine ⟨by simp, ?_⟩
      have := (h2 c (by rw [h]; simp)).1
      simpa using this
theorem p6_jt {dot : Bool} (tx : Nat → List UInt8) (v : Nat → Nat) (k a : Nat) (acc out : List UInt8) (ell : Option Nat) (hk : k ≠ 0) (hg : ∀ i, a ≤ i → i < a + k → Grp (tx i) (v i)) (hl : acc.length + 2 * k ≤ 16) (hf : Fin6 (acc ++ bv v a k) ell out) : P6 dot (jt tx a k) acc ell out := by
  induction k generalizing a acc with
  | zero => exact absurd rfl hk
  | succ k ih =>
    rw [jt_cons]
    by_cases h0 : k = 0
    · subst h0
      rw [if_pos rfl, List.append_nil]
      exact .last (hg a (by omega) (by omega)) (by omega) (by simpa [bv] using hf)
    · rw [if_neg h0]
      have hh := head_jt tx (a + 1) k h0 (hg (a + 1) (by omega) (by omega))
      refine .next (hg a (by omega) (by omega)) (by omega) hh.1 hh.2 (ih (a + 1) _ h0 (fun i h1 h2 => hg i (by omega) (by omega)) (by simp [two]; omega) ?_)
      rw [List.append_assoc]
      exact hf
theorem p6_jt_gap {dot : Bool} (tx : Nat → List UInt8) (v : Nat → Nat) (k a : Nat) (acc out r : List UInt8) (hk : k ≠ 0) (hg : ∀ i, a ≤ i → i < a + k → Grp (tx i) (v i)) (hl : acc.length + 2 * k ≤ 16)
    (hf : (r = [] ∧ Fin6 (acc ++ bv v a k) (some (acc.length + 2 * k)) out) ∨ (r ≠ [] ∧ P6 dot r (acc ++ bv v a k) (some (acc.length + 2 * k)) out)) : P6 dot (jt tx a k ++ 58 :: 58 :: r) acc none out := by
  induction k generalizing a acc with
  | zero => exact absurd rfl hk
  | succ k ih =>
    rw [jt_cons]
    by_cases h0 : k = 0
    · subst h0
      rw [if_pos rfl, List.append_nil]
      rcases hf with ⟨rfl, hf⟩ | ⟨hr, hf⟩
      · exact .stop (hg a (by omega) (by omega)) (by omega) (by simpa [bv] using hf)
      · exact .gap (hg a (by omega) (by omega)) (by omega) hr (by simpa [bv] using hf)
    · rw [if_neg h0]
      have hh := head_jt tx (a + 1) k h0 (hg (a + 1) (by omega) (by omega))
      rw [List.append_assoc, List.cons_append]
      have e : (acc ++ two (v a)).length + 2 * k = acc.length + 2 * (k + 1) := by simp [two]; omega
      refine .next (hg a (by omega) (by omega)) (by omega) (by simp) ?_ (ih (a + 1) _ h0 (fun i h1 h2 => hg i (by omega) (by omega)) (by omega) ?_)
      · rcases h : jt tx (a + 1) k with _ | ⟨c, t⟩
        · exact absurd h hh.1
        · have := hh.2; rw [h] at this; simpa using this
      · rw [List.append_assoc, e]
        exact hf
/-- eight groups -/
theorem t6_eight {dot : Bool} (tx : Nat → List UInt8) (v : Nat → Nat) (hg : ∀ i, i < 8 → Grp (tx i) (v i)) : T6 dot (jt tx 0 8) (bv v 0 8) :=
  .plain (p6_jt tx v 8 0 [] _ none (by decide) (fun i _ h => hg i (by omega)) (by simp) (.inl ⟨by simp [bv_len], rfl, rfl⟩))
/-- fewer groups, with '::' for the others, which are zeros -/
theorem t6_gap {dot : Bool} (tx : Nat → List UInt8) (v : Nat → Nat) (s e : Nat) (hg : ∀ i, i < 8 → (i < s ∨ e ≤ i) → Grp (tx i) (v i)) (hse : s < e) (he : e ≤ 8) (hz : ∀ i, s ≤ i → i < e → v i = 0) : T6 dot (jt tx 0 s ++ 58 :: 58 :: jt tx e (8 - e)) (bv v 0 8) := by
  have eb : bv v 0 8 = bv v 0 s ++ (List.replicate (2 * (e - s)) 0 ++ bv v e (8 - e)) := by
    have h1 := bv_add v 0 s (8 - s)
    have h2 := bv_add v s (e - s) (8 - e)
    rw [show s + (8 - s) = 8 by omega, Nat.zero_add] at h1
    rw [show e - s + (8 - e) = 8 - s by omega, show s + (e - s) = e by omega] at h2
    rw [h1, h2, bv_zero v s (e - s) (fun i hi => hz (s + i) (by omega) (by omega))]
  have hfin : Fin6 (bv v 0 s ++ bv v e (8 - e)) (some (2 * s)) (bv v 0 8) := by
    refine .inr ⟨by simp [bv_len]; omega, 2 * s, rfl, by simp [bv_len], ?_⟩
    rw [List.take_left' (bv_len v 0 s), List.drop_left' (bv_len v 0 s), eb]
    congr 3
    simp [bv_len]; omega
  by_cases hs : s = 0
  · subst hs
    by_cases h8 : e = 8
    · subst h8
      have : bv v 0 8 = List.replicate 16 0 := by rw [eb]; simp [bv]
      rw [this]
      exact .zeros
    · refine .front (head_jt tx e (8 - e) (by omega) (hg e (by omega) (by omega))).1 (p6_jt tx v (8 - e) e [] _ (some 0) (by omega) (fun i h1 h2 => hg i (by omega) (by omega)) (by simp; omega) ?_)
      simpa [bv] using hfin
  · refine .plain (p6_jt_gap tx v s 0 [] _ _ hs (fun i _ h => hg i (by omega) (by omega)) (by simp; omega) ?_)
    by_cases h8 : e = 8
    · subst h8
      exact .inl ⟨rfl, by simpa [bv] using hfin⟩
    · refine .inr ⟨(head_jt tx e (8 - e) (by omega) (hg e (by omega) (by omega))).1, p6_jt tx v (8 - e) e _ _ _ (by omega) (fun i h1 h2 => hg i (by omega) (by omega)) (by simp [bv_len]; omega) ?_⟩
      simpa using hfin
theorem t6_long {dot : Bool} (xs : List UInt8) (h : xs.length = 16) : T6 dot (long (gr xs)) xs := by
  have hg : ∀ i, i < 8 → Grp (hx (gr xs i)) (gr xs i) := fun i _ => grp_hx _ (gr_lt xs i)
  unfold long
  rcases bst_form (gr xs) 8 (Nat.le_refl _) with ⟨h1, h2⟩ | ⟨h1, h2, h3⟩
  · rw [if_pos h1, jn_jt]
    have := t6_eight (dot := dot) (fun i => hx (gr xs i)) (gr xs) hg
    rwa [bv_gr xs h] at this
  · rw [if_neg (by omega), jn_jt, jn_jt]
    have := t6_gap (dot := dot) (fun i => hx (gr xs i)) (gr xs) (bst (gr xs) 8).1 (bst (gr xs) 8).2 (fun i h _ => hg i h) (by omega) h2 (fun i a b => run_zero a (by rw [← h3]; exact b))
    rwa [bv_gr xs h] at this
end Go.Proofs.YtkmjejgeeghjmaaDoor
