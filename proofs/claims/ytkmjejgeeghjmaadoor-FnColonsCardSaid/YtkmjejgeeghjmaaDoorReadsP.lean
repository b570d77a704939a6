/-
  The text of an address is read to the address, in 16 bytes. No condition.
-/
import Derived.Test.YtkmjejgeeghjmaaDoorPIP
namespace Go.Proofs.YtkmjejgeeghjmaaDoor
open Go.RowKit
set_option linter.unusedVariables false

theorem reads_text {xs : List UInt8} (h : xs.length = 4 ∨ xs.length = 16) : Reads (ipText xs) ((to16 xs).getD []) := by
  rcases h with h | h
  · refine .inr ⟨xs, h, by unfold ipText; rw [to4_four h], by rw [to16_four h]; rfl⟩
  · by_cases hm : xs.take 12 = mp
    · refine .inr ⟨xs.drop 12, by simp [h], by unfold ipText; rw [to4_mapped h hm], ?_⟩
      rw [to16_six h, ← hm]
      simp
    · refine .inl ⟨false, ?_⟩
      have e : ipText xs = long (gr xs) := by unfold ipText; rw [to4_six h hm]
      rw [e, to16_six h]
      exact t6_long xs h
theorem reads_len {s out : List UInt8} (h : Reads s out) : s.length ≤ 65 ∧ s ≠ [] := by
  rcases h with ⟨dot, h⟩ | ⟨xs, h1, rfl, rfl⟩
  · refine ⟨h.len, ?_⟩
    obtain ⟨t, r, e, _⟩ := h.colon
    rw [e]; simp
  · have := dot4_len xs
    exact ⟨by omega, (dot4_front xs).1⟩
end Go.Proofs.YtkmjejgeeghjmaaDoor
