/-
  The package-level variable net.v4InV6Prefix as the walks use it: its cell holds a slice of twelve bytes, ten zeros and 255, 255. Kept over calls that change no old memory. No condition.
-/
import Derived.Test.YtjepkkfpgmgnjaaDoorKit
namespace Go.Proofs.YtjepkkfpgmgnjaaDoor
open Go.RowKit

/-- the variable holds a slice that reads as ten zeros, 255, 255 -/
def V4 (w : World) : Prop := ∃ b off c, w.cell? ⟨0, 0, none⟩ = some (.slice (some ⟨b, off, none⟩) 12 c) ∧ 12 ≤ c ∧ 0 < w.heap.size ∧ Rd w (some ⟨b, off, none⟩) mp
theorem V4.below {w w' : World} (h : V4 w) (hb : Below w.heap.size w w') : V4 w' := by
  obtain ⟨b, off, c, h1, h2, h3, h4⟩ := h
  exact ⟨b, off, c, (hb.cell (p := ⟨0, 0, none⟩) h3).trans h1, h2, Nat.lt_of_lt_of_le h3 hb.size, h4.below hb⟩
theorem V4.drew {w : World} (h : V4 w) : V4 w.drew := h
theorem V4.drewN {w : World} (h : V4 w) (n : Nat) : V4 (w.drewN n) := h
theorem V4.alloc {w : World} (h : V4 w) (o : Obj) : V4 (w.alloc o) := h.below ((Below.refl _ _).alloc (Nat.le_refl _) o)
end Go.Proofs.YtjepkkfpgmgnjaaDoor
