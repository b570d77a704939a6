/-
  Contracts of (netip.Addr).WithZone with no zone, netip.IPv6Unspecified, (netip.Addr).Zone. No condition.
-/
import Derived.Test.YtkmjejgeeghjmaaDoorNetipSlice
import Derived.Handy
namespace Go.Proofs.YtkmjejgeeghjmaaDoor
open Go.RowKit
set_option linter.unusedVariables false

set_option maxRecDepth 100000 in
set_option maxHeartbeats 1000000 in
theorem withZone_6 (hi lo : Nat) (p4 p6 : Addr) (w : World) (hz : ZF w p4 p6) :
    Calls Tryd.prog 64 #[addrV hi lo (some p6), .string ⟨#[]⟩] w fun e w' => e = .returned (addrV hi lo (some p6)) ∧ Below w.heap.size w w' := by
  have fr := fun (w : World) (hz : ZF w p4 p6) => is6_6 hi lo p4 p6 w hz
  unfold addrV at fr ⊢
  have FR := Lib.hid fr
  clear fr
  go_enter Tryd.func64, Tryd.ntmps64
  go_wp2_with fail
  refine (FR.out _ ((hz.alloc _).alloc _)).mono ?_
  rintro e w1 ⟨rfl, hb1⟩
  have z1 := ((hz.alloc (.cells #[.int .u64 (hi : Int), .int .u64 (lo : Int), .pointer (some p6)] 73)).alloc (.cells #[.int .u64 0, .int .u64 0, .pointer none] 73)).below hb1
  have g6 := z1.1.2.2
  have c0 := (hb1.cell (p := ⟨w.heap.size, 0, none⟩) (by simp; omega))
  have c1 := (hb1.cell (p := ⟨w.heap.size, 1, none⟩) (by simp; omega))
  have c2 := (hb1.cell (p := ⟨w.heap.size, 2, none⟩) (by simp; omega))
  have e2 := (hb1.frozen (p := ⟨w.heap.size, 2, none⟩) (by simp; omega))
  have d0 := (hb1.cell (p := ⟨w.heap.size + 1, 0, none⟩) (by simp))
  have d1 := (hb1.cell (p := ⟨w.heap.size + 1, 1, none⟩) (by simp))
  have d2 := (hb1.cell (p := ⟨w.heap.size + 1, 2, none⟩) (by simp))
  have f0 := (hb1.frozen (p := ⟨w.heap.size + 1, 0, none⟩) (by simp))
  have f1 := (hb1.frozen (p := ⟨w.heap.size + 1, 1, none⟩) (by simp))
  have f2 := (hb1.frozen (p := ⟨w.heap.size + 1, 2, none⟩) (by simp))
  simp at c0 c1 c2 d0 d1 d2 e2 f0 f1 f2
  have hs1 := hb1.size
  simp at hs1
  have ne : ∀ k, (⟨w.heap.size + 1, k, none⟩ : Addr) ≠ ⟨w.heap.size, 2, none⟩ := fun k => by simp
  obtain ⟨q0, q1, q2⟩ := set3 (w := w1.setCell ⟨w.heap.size, 2, none⟩ (.pointer (some p6))) (.int .u64 (hi : Int)) (.int .u64 (lo : Int)) (.pointer (some p6)) ((World.cell?_setCell_other _ _ _ _ (ne 0).symm).trans d0) ((World.cell?_setCell_other _ _ _ _ (ne 1).symm).trans d1) ((World.cell?_setCell_other _ _ _ _ (ne 2).symm).trans d2)
  clear ne
  go_wp2
  refine bodyPost_ret (v := .agg #[.int .u64 (hi : Int), .int .u64 (lo : Int), .pointer (some p6)]) (by simp [results, Tryd.results64, go_sem, q0, q1, q2]) rfl ⟨rfl, ?_⟩
  exact (((((((((Below.refl w.heap.size w).alloc (Nat.le_refl _) _).alloc (by simp) _).trans (hb1.mono (by simp; omega))).setCell (p := ⟨w.heap.size, 2, none⟩) (by simp) _).setCell (p := ⟨w.heap.size + 1, 0, none⟩) (by simp) _).setCell (p := ⟨w.heap.size + 1, 1, none⟩) (by simp) _).setCell (p := ⟨w.heap.size + 1, 2, none⟩) (by simp) _))

set_option maxRecDepth 100000 in
set_option maxHeartbeats 1000000 in
theorem unspec_any (p4 p6 : Addr) (w : World) (hz : ZF w p4 p6) :
    Calls Tryd.prog 63 #[] w fun e w' => e = .returned (addrV 0 0 (some p6)) ∧ Below w.heap.size w w' := by
  have g6 := fun o => (hz.alloc o).1.2.2
  unfold addrV
  go_enter Tryd.func63, Tryd.ntmps63
  go_wp2
  go_returns
  exact ⟨rfl, by go_grown⟩

set_option maxRecDepth 100000 in
set_option maxHeartbeats 1000000 in
theorem value_any (p : Addr) (b : Bool) (w : World) (hs : p.spot = none) (h0 : w.cell? ⟨p.block, p.off, none⟩ = some (.bool b)) (h1 : w.cell? ⟨p.block, p.off + 1, none⟩ = some (.string ⟨#[]⟩)) :
    Calls Tryd.prog 53 #[.agg #[.pointer (some p)]] w fun e w' => e = .returned (.agg #[.bool b, .string ⟨#[]⟩]) ∧ Below w.heap.size w w' := by
  obtain ⟨pb, po, ps⟩ := p
  simp only at hs h0 h1
  subst hs
  have l0 : pb < w.heap.size := by
    rcases Nat.lt_or_ge pb w.heap.size with h' | h'
    · exact h'
    · simp [World.cell?, Array.getElem?_eq_none h'] at h0
  have k0 := fun o o' => ((((Below.refl w.heap.size w).alloc (Nat.le_refl _) o).alloc (by simp) o').cell (p := ⟨pb, po, none⟩) l0).trans h0
  have k1 := fun o o' => ((((Below.refl w.heap.size w).alloc (Nat.le_refl _) o).alloc (by simp) o').cell (p := ⟨pb, po + 1, none⟩) l0).trans h1
  go_enter Tryd.func53, Tryd.ntmps53
  go_wp2
  go_returns
  exact ⟨rfl, by go_grown⟩
end Go.Proofs.YtkmjejgeeghjmaaDoor
