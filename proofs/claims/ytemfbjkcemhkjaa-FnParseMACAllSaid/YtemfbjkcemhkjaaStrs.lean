/-
  Slices of strings of the call's own: plain facts and the law of append. No condition.
-/
import Derived.Test.YtemfbjkcemhkjaaKit
namespace Go.Proofs.Ytemfbjkcemhkjaa
open Go.RowKit
set_option linter.unusedVariables false

/-- the cells of a list of strings -/
def css (ls : List (List UInt8)) : List Value := ls.map fun l => .string ⟨l.toArray⟩
theorem css_length (ls : List (List UInt8)) : (css ls).length = ls.length := by simp [css]
theorem css_get (ls : List (List UInt8)) (j : Nat) (h : j < ls.length) : (css ls)[j]? = some (.string ⟨(ls[j]).toArray⟩) := by simp [css, h]

theorem own_form {w : World} {base : Nat} {e : TypeId} {v : Value} {k : Nat} {zs : List Value} (h : w.ownsRow base e 1 v k zs) : ∃ A c, v = .slice A k c := by
  rcases h.2 with ⟨rfl, rfl⟩ | ⟨g, cap, cur, rfl, _⟩
  · exact ⟨none, 0, rfl⟩
  · exact ⟨_, _, rfl⟩

/-- append of one element of one cell -/
theorem wpList_app1 {P : Program} {w : World} {ops : Array Oper} {rest : List Oper} {o : Oper} {a : Act} {Q : Exit → Act → World → Prop} (hgd : o.guard = none) (s x : Operand) (t : TypeId)
    (ho : o.op = .call { callee := .builtin .append, args := #[s, x], argTypes := #[t, t] })
    (base : Nat) (e : TypeId) (z : Value) (bytes : Nat) (ht : P.underlying t = some (.slice e)) (hinfo : (P.info? e).map (fun i => (i.zero, i.size, i.bytes)) = some (some z, 1, bytes)) (hz : z.cells.size = 1)
    (v : Value) (n : Nat) (xs : List Value) (hs : a.eval s = v) (hown : w.ownsRow base e 1 v n xs) (k : Nat) (u : Value) (hx : a.eval x = .slice (some ⟨k, 0, none⟩) 1 1) (hu : w.cell? ⟨k, 0, none⟩ = some u) (h1 : u.oneCell' = true)
    (hsz : (n + 1) * bytes ≤ 140737488355328) (hn : n ≤ 140737488355328) (hbase : base ≤ w.heap.size)
    (h : ∀ A' c' w', w'.ownsRow base e 1 (.slice A' (n + 1) c') (n + 1) (xs ++ [u]) → w.grownBy w' v.ownBlock → wpList P ops Q rest (a.put o.dst (.slice A' (n + 1) c')) w') : wpList P ops Q (o :: rest) a w := by
  obtain ⟨i, hi, hz0, hz1, hz2⟩ := info_parts hinfo
  refine wpList_append_own_at w hgd s x t ho base e i z 1 bytes ht hi hz0 hz1 hz2 hz (by decide) v n xs hs hown ⟨k, 0, none⟩ 1 1 [u] hx rfl ?_ ?_ ?_ hsz hbase ?_
  · intro j y hy
    rcases j with _ | j
    · simp at hy; subst hy; simpa [Addr.add] using hu
    · simp at hy
  · intro y hy; simp at hy; subst hy; exact h1
  · simp only [maxLen]; omega
  · intro v' w' h2 h3 _ _
    obtain ⟨A', c', rfl⟩ := own_form h2
    exact h A' c' w' h2 h3

theorem infoS : (Try.prog.info? 9).map (fun i => (i.zero, i.size, i.bytes)) = some (some (.string ⟨#[]⟩), 1, 16) := by kernel_rfl

/-- a slice of strings of the call's own -/
def StrsBack (eS : TypeId) (w : World) (ls : List (List UInt8)) (e : Ending) (w' : World) : Prop :=
  ∃ A n c, e = .returned (.slice A n c) ∧ ls.length = n ∧ w'.ownsRow w.heap.size eS 1 (.slice A n c) n (css ls) ∧ Below w.heap.size w w'
/-- a row of strings of the call's own that fills its block -/
theorem block_ownS {w : World} {base g n : Nat} {e : TypeId} {ls : List (List UInt8)} (hg : w.heap[g]? = some (.cells (css ls).toArray e (0, 0))) (hb : base ≤ g) (hn : ls.length = n) (hm : n ≤ 281474976710656) : w.ownsRow base e 1 (.slice (some ⟨g, 0, none⟩) n n) n (css ls) := by
  subst hn
  exact ⟨by simp [css_length], .inr ⟨g, ls.length, (css ls).toArray, rfl, hb, hg, Nat.le_refl _, by simp only [maxLen]; omega, by simp [css_length], by rw [List.take_of_length_le (by simp [css_length])]⟩⟩
/-- a cell of a row of strings -/
theorem own_cellS {w : World} {base g n cap : Nat} {e : TypeId} {ls : List (List UInt8)} (h : w.ownsRow base e 1 (.slice (some ⟨g, 0, none⟩) n cap) n (css ls)) (hn : ls.length = n) (j : Nat) (hj : j < ls.length) : w.cell? ⟨g, j, none⟩ = some (.string ⟨(ls[j]).toArray⟩) := by
  rw [h.cellAt j (by omega), css_get ls j hj]
end Go.Proofs.Ytemfbjkcemhkjaa
