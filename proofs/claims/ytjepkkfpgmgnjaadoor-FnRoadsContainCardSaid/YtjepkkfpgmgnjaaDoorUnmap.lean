/-
  Contract of (netip.Addr).Unmap. No condition.
-/
import Derived.Test.YtjepkkfpgmgnjaaDoorNetipSlice
namespace Go.Proofs.YtjepkkfpgmgnjaaDoor
open Go.RowKit
set_option linter.unusedVariables false

set_option maxRecDepth 100000 in
set_option maxHeartbeats 1000000 in
/-- an IPv6 address that is not IPv4-mapped stays as it is -/
theorem unmap_6 (hi lo : Nat) (p4 p6 : Addr) (w : World) (hz : ZF w p4 p6) (hh : hi < 18446744073709551616) (hl : lo < 18446744073709551616) (hm : mapd hi lo = false) :
    Calls Tryd.prog 45 #[addrV hi lo (some p6)] w fun e w' => e = .returned (addrV hi lo (some p6)) ∧ Below w.heap.size w w' := by
  have HM := Lib.hid hm
  have fr := fun (w : World) (hz : ZF w p4 p6) => is4in6_6 hi lo p4 p6 w hz hh hl false HM.out
  unfold addrV at fr ⊢
  clear hm
  go_enter Tryd.func45, Tryd.ntmps45
  go_wp2_with fail
  refine (fr _ ((hz.alloc _).alloc _)).mono ?_
  rintro e w1 ⟨rfl, hb1⟩
  have c0 := (hb1.cell (p := ⟨w.heap.size, 0, none⟩) (by simp; omega))
  have c1 := (hb1.cell (p := ⟨w.heap.size, 1, none⟩) (by simp; omega))
  have c2 := (hb1.cell (p := ⟨w.heap.size, 2, none⟩) (by simp; omega))
  have d0 := (hb1.cell (p := ⟨w.heap.size + 1, 0, none⟩) (by simp))
  have d1 := (hb1.cell (p := ⟨w.heap.size + 1, 1, none⟩) (by simp))
  have d2 := (hb1.cell (p := ⟨w.heap.size + 1, 2, none⟩) (by simp))
  have f0 := (hb1.frozen (p := ⟨w.heap.size + 1, 0, none⟩) (by simp))
  have f1 := (hb1.frozen (p := ⟨w.heap.size + 1, 1, none⟩) (by simp))
  have f2 := (hb1.frozen (p := ⟨w.heap.size + 1, 2, none⟩) (by simp))
  simp at c0 c1 c2 d0 d1 d2 f0 f1 f2
  have hs1 := hb1.size
  simp at hs1
  obtain ⟨q0, q1, q2⟩ := set3 (.int .u64 (hi : Int)) (.int .u64 (lo : Int)) (.pointer (some p6)) d0 d1 d2
  go_wp2
  refine bodyPost_ret (v := .agg #[.int .u64 (hi : Int), .int .u64 (lo : Int), .pointer (some p6)]) (by simp [results, Tryd.results45, go_sem, q0, q1, q2]) rfl ⟨rfl, ?_⟩
  exact ((((((((Below.refl w.heap.size w).alloc (Nat.le_refl _) _).alloc (by simp) _).trans (hb1.mono (by simp; omega))).setCell (p := ⟨w.heap.size + 1, 0, none⟩) (by simp) _).setCell (p := ⟨w.heap.size + 1, 1, none⟩) (by simp) _).setCell (p := ⟨w.heap.size + 1, 2, none⟩) (by simp) _))

set_option maxRecDepth 100000 in
set_option maxHeartbeats 1000000 in
/-- an IPv4-mapped address becomes the IPv4 address -/
theorem unmap_m (hi lo : Nat) (p4 p6 : Addr) (w : World) (hz : ZF w p4 p6) (hh : hi < 18446744073709551616) (hl : lo < 18446744073709551616) (hm : mapd hi lo = true) :
    Calls Tryd.prog 45 #[addrV hi lo (some p6)] w fun e w' => e = .returned (addrV hi lo (some p4)) ∧ Below w.heap.size w w' := by
  have HM := Lib.hid hm
  have fr := fun (w : World) (hz : ZF w p4 p6) => is4in6_6 hi lo p4 p6 w hz hh hl true HM.out
  unfold addrV at fr ⊢
  clear hm
  go_enter Tryd.func45, Tryd.ntmps45
  go_wp2_with fail
  refine (fr _ ((hz.alloc _).alloc _)).mono ?_
  rintro e w1 ⟨rfl, hb1⟩
  have z1 := ((hz.alloc (.cells #[.int .u64 (hi : Int), .int .u64 (lo : Int), .pointer (some p6)] 60)).alloc (.cells #[.int .u64 0, .int .u64 0, .pointer none] 60)).below hb1
  have g4 := z1.1.2.1
  have c0 := (hb1.cell (p := ⟨w.heap.size, 0, none⟩) (by simp; omega))
  have c1 := (hb1.cell (p := ⟨w.heap.size, 1, none⟩) (by simp; omega))
  have c2 := (hb1.cell (p := ⟨w.heap.size, 2, none⟩) (by simp; omega))
  have e2 := (hb1.frozen (p := ⟨w.heap.size, 2, none⟩) (by simp; omega))
  have d0 := (hb1.cell (p := ⟨w.heap.size + 1, 0, none⟩) (by simp))
  have d1 := (hb1.cell (p := ⟨w.heap.size + 1, 1, none⟩) (by simp))
  have d2 := (hb1.cell (p := ⟨w.heap.size + 1, 2, none⟩) (by simp))
  have f0 := (hb1.frozen (p := ⟨w.heap.size + 1, 0, none⟩) (by simp))
  have f1 := (hb1.frozen (p := ⟨w.heap.size + 1, 1, none⟩) (by simp))
  have f2 := (hb1.frozen (p := ⟨w.heap.size + 1, 2, none⟩) (by simp))
  simp at c0 c1 c2 d0 d1 d2 e2 f0 f1 f2
  have hs1 := hb1.size
  simp at hs1
  have ne : ∀ k, (⟨w.heap.size + 1, k, none⟩ : Addr) ≠ ⟨w.heap.size, 2, none⟩ := fun k => by simp
  obtain ⟨q0, q1, q2⟩ := set3 (w := w1.setCell ⟨w.heap.size, 2, none⟩ (.pointer (some p4))) (.int .u64 (hi : Int)) (.int .u64 (lo : Int)) (.pointer (some p4)) ((World.cell?_setCell_other _ _ _ _ (ne 0).symm).trans d0) ((World.cell?_setCell_other _ _ _ _ (ne 1).symm).trans d1) ((World.cell?_setCell_other _ _ _ _ (ne 2).symm).trans d2)
  clear ne
  go_wp2
  refine bodyPost_ret (v := .agg #[.int .u64 (hi : Int), .int .u64 (lo : Int), .pointer (some p4)]) (by simp [results, Tryd.results45, go_sem, q0, q1, q2]) rfl ⟨rfl, ?_⟩
  exact (((((((((Below.refl w.heap.size w).alloc (Nat.le_refl _) _).alloc (by simp) _).trans (hb1.mono (by simp; omega))).setCell (p := ⟨w.heap.size, 2, none⟩) (by simp) _).setCell (p := ⟨w.heap.size + 1, 0, none⟩) (by simp) _).setCell (p := ⟨w.heap.size + 1, 1, none⟩) (by simp) _).setCell (p := ⟨w.heap.size + 1, 2, none⟩) (by simp) _))

set_option maxRecDepth 100000 in
set_option maxHeartbeats 400000 in
theorem is4in6_4 (hi lo : Nat) (p4 p6 : Addr) (w : World) (hz : ZF w p4 p6) :
    Calls Tryd.prog 73 #[addrV hi lo (some p4)] w fun e w' => e = .returned (.bool false) ∧ Below w.heap.size w w' := by
  unfold addrV
  go_enter Tryd.func73, Tryd.ntmps73
  go_wp2_with fail
  refine (is6_4 hi lo p4 p6 _ (hz.alloc _)).mono ?_
  rintro e w1 ⟨rfl, hb1⟩
  go_wp2
  go_ret
  exact ⟨rfl, ((Below.refl _ _).alloc (Nat.le_refl _) _).trans (hb1.mono (by simp))⟩

set_option maxRecDepth 100000 in
set_option maxHeartbeats 1000000 in
/-- an IPv4 address stays as it is -/
theorem unmap_4 (hi lo : Nat) (p4 p6 : Addr) (w : World) (hz : ZF w p4 p6) :
    Calls Tryd.prog 45 #[addrV hi lo (some p4)] w fun e w' => e = .returned (addrV hi lo (some p4)) ∧ Below w.heap.size w w' := by
  have fr := fun (w : World) (hz : ZF w p4 p6) => is4in6_4 hi lo p4 p6 w hz
  unfold addrV at fr ⊢
  go_enter Tryd.func45, Tryd.ntmps45
  go_wp2_with fail
  refine (fr _ ((hz.alloc _).alloc _)).mono ?_
  rintro e w1 ⟨rfl, hb1⟩
  have c0 := (hb1.cell (p := ⟨w.heap.size, 0, none⟩) (by simp; omega))
  have c1 := (hb1.cell (p := ⟨w.heap.size, 1, none⟩) (by simp; omega))
  have c2 := (hb1.cell (p := ⟨w.heap.size, 2, none⟩) (by simp; omega))
  have d0 := (hb1.cell (p := ⟨w.heap.size + 1, 0, none⟩) (by simp))
  have d1 := (hb1.cell (p := ⟨w.heap.size + 1, 1, none⟩) (by simp))
  have d2 := (hb1.cell (p := ⟨w.heap.size + 1, 2, none⟩) (by simp))
  have f0 := (hb1.frozen (p := ⟨w.heap.size + 1, 0, none⟩) (by simp))
  have f1 := (hb1.frozen (p := ⟨w.heap.size + 1, 1, none⟩) (by simp))
  have f2 := (hb1.frozen (p := ⟨w.heap.size + 1, 2, none⟩) (by simp))
  simp at c0 c1 c2 d0 d1 d2 f0 f1 f2
  have hs1 := hb1.size
  simp at hs1
  obtain ⟨q0, q1, q2⟩ := set3 (.int .u64 (hi : Int)) (.int .u64 (lo : Int)) (.pointer (some p4)) d0 d1 d2
  go_wp2
  refine bodyPost_ret (v := .agg #[.int .u64 (hi : Int), .int .u64 (lo : Int), .pointer (some p4)]) (by simp [results, Tryd.results45, go_sem, q0, q1, q2]) rfl ⟨rfl, ?_⟩
  exact ((((((((Below.refl w.heap.size w).alloc (Nat.le_refl _) _).alloc (by simp) _).trans (hb1.mono (by simp; omega))).setCell (p := ⟨w.heap.size + 1, 0, none⟩) (by simp) _).setCell (p := ⟨w.heap.size + 1, 1, none⟩) (by simp) _).setCell (p := ⟨w.heap.size + 1, 2, none⟩) (by simp) _))
end Go.Proofs.YtjepkkfpgmgnjaaDoor
