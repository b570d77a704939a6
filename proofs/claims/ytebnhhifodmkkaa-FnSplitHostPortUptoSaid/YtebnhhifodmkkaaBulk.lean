/-
  What the second form's bound (values and letters at most 1048576 together) says of one slice or string that came in: its length is at most that. No condition.
-/
import Derived.Test.YtebnhhifodmkkaaRows
namespace Go.Proofs.Ytebnhhifodmkkaa

theorem bulk_one {H : Type} (d : DataW H) : 1 ≤ Rows.uptoBulk d := by
  cases d with
  | lit l => cases l <;> simp [Rows.uptoBulk]
  | nil => simp [Rows.uptoBulk]
  | ptr d => simp [Rows.uptoBulk]
  | slice elems spare => simp [Rows.uptoBulk]
  | agg parts => simp [Rows.uptoBulk]
  | iface t d => simp [Rows.uptoBulk]
  | map entries => simp [Rows.uptoBulk]
  | held h => simp [Rows.uptoBulk]
theorem bulk_all {H : Type} (l : List (DataW H)) : l.length ≤ Rows.uptoBulkAll l := by
  induction l with
  | nil => simp
  | cons x r ih => have := bulk_one x; simp only [Rows.uptoBulkAll, List.length_cons]; omega
theorem bulk_slice {H : Type} {d : DataW H} {n : Nat} (h : n = 0 ∨ ∃ elems spare, d = .slice elems spare ∧ elems.length = n) : n ≤ Rows.uptoBulk d := by
  rcases h with rfl | ⟨elems, spare, rfl, rfl⟩
  · exact Nat.zero_le _
  · have := bulk_all elems
    simp only [Rows.uptoBulk]
    omega
theorem bulk_string {H : Type} (s : ByteArray) : s.size ≤ Rows.uptoBulk (DataW.lit (H := H) (.string s.data.toList)) := by
  have e : s.data.toList.length = s.size := by simp
  simp only [Rows.uptoBulk]
  omega
end Go.Proofs.Ytebnhhifodmkkaa
