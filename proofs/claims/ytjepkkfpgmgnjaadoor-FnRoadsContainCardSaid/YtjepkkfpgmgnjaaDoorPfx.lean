/-
  Contracts of the small functions of netip.Prefix: isZero, BitLen, Is4, hasZone, withoutZone, PrefixFrom, IsValid, Bits. No condition.
-/
import Derived.Test.YtjepkkfpgmgnjaaDoorUnmap
import Derived.Test.YtjepkkfpgmgnjaaDoorPfxP
namespace Go.Proofs.YtjepkkfpgmgnjaaDoor
open Go.RowKit
set_option linter.unusedVariables false

/-- a prefix as a value: an address, and the number of its bits and one more -/
def pfxV (hi lo : Nat) (z : Option Addr) (b : Nat) : Value := .agg #[.int .u64 (hi : Int), .int .u64 (lo : Int), .pointer z, .int .u8 (b : Int)]

set_option maxRecDepth 100000 in
set_option maxHeartbeats 400000 in
theorem isZero_any (hi lo : Nat) (p p4 p6 : Addr) (w : World) (hz : ZF w p4 p6) :
    Calls Tryd.prog 60 #[addrV hi lo (some p)] w fun e w' => e = .returned (.bool false) ∧ Below w.heap.size w w' := by
  obtain ⟨⟨h0, h4, h6⟩, ⟨l0, l4, l6⟩, _⟩ := hz
  unfold addrV
  have q0 := h_eql_none
  go_enter Tryd.func60, Tryd.ntmps60
  go_wp2
  go_ret
  exact ⟨rfl, (Below.refl _ _).alloc (Nat.le_refl _) _⟩

set_option maxRecDepth 100000 in
set_option maxHeartbeats 400000 in
theorem bitLen_4 (hi lo : Nat) (p4 p6 : Addr) (w : World) (hz : ZF w p4 p6) :
    Calls Tryd.prog 61 #[addrV hi lo (some p4)] w fun e w' => e = .returned (.int .i64 32) ∧ Below w.heap.size w w' := by
  have e1 := eqSame
  obtain ⟨⟨h0, h4, h6⟩, ⟨l0, l4, l6⟩, _⟩ := hz
  unfold addrV
  have q0 := h_eql_none
  go_enter Tryd.func61, Tryd.ntmps61
  go_wp2
  go_ret
  exact ⟨rfl, (Below.refl _ _).alloc (Nat.le_refl _) _⟩

set_option maxRecDepth 100000 in
set_option maxHeartbeats 400000 in
theorem bitLen_6 (hi lo : Nat) (p4 p6 : Addr) (w : World) (hz : ZF w p4 p6) :
    Calls Tryd.prog 61 #[addrV hi lo (some p6)] w fun e w' => e = .returned (.int .i64 128) ∧ Below w.heap.size w w' := by
  have e1 := fun o => (hz.alloc o).eq64
  obtain ⟨⟨h0, h4, h6⟩, ⟨l0, l4, l6⟩, _⟩ := hz
  unfold addrV
  have q0 := h_eql_none
  go_enter Tryd.func61, Tryd.ntmps61
  go_wp2
  go_ret
  exact ⟨rfl, (Below.refl _ _).alloc (Nat.le_refl _) _⟩

set_option maxRecDepth 100000 in
set_option maxHeartbeats 400000 in
theorem is4_4 (hi lo : Nat) (p4 p6 : Addr) (w : World) (hz : ZF w p4 p6) :
    Calls Tryd.prog 64 #[addrV hi lo (some p4)] w fun e w' => e = .returned (.bool true) ∧ Below w.heap.size w w' := by
  have e1 := eqSame
  obtain ⟨⟨h0, h4, h6⟩, ⟨l0, l4, l6⟩, _⟩ := hz
  unfold addrV
  go_enter Tryd.func64, Tryd.ntmps64
  go_wp2
  go_ret
  exact ⟨rfl, (Below.refl _ _).alloc (Nat.le_refl _) _⟩

set_option maxRecDepth 100000 in
set_option maxHeartbeats 400000 in
theorem is4_6 (hi lo : Nat) (p4 p6 : Addr) (w : World) (hz : ZF w p4 p6) :
    Calls Tryd.prog 64 #[addrV hi lo (some p6)] w fun e w' => e = .returned (.bool false) ∧ Below w.heap.size w w' := by
  have e1 := fun o => (hz.alloc o).eq64
  obtain ⟨⟨h0, h4, h6⟩, ⟨l0, l4, l6⟩, _⟩ := hz
  unfold addrV
  go_enter Tryd.func64, Tryd.ntmps64
  go_wp2
  go_ret
  exact ⟨rfl, (Below.refl _ _).alloc (Nat.le_refl _) _⟩

set_option maxRecDepth 100000 in
set_option maxHeartbeats 400000 in
theorem hasZone_4 (hi lo : Nat) (p4 p6 : Addr) (w : World) (hz : ZF w p4 p6) :
    Calls Tryd.prog 63 #[addrV hi lo (some p4)] w fun e w' => e = .returned (.bool false) ∧ Below w.heap.size w w' := by
  have e1 := eqSame
  obtain ⟨⟨h0, h4, h6⟩, ⟨l0, l4, l6⟩, _⟩ := hz
  unfold addrV
  have q0 := h_neq_none
  go_enter Tryd.func63, Tryd.ntmps63
  go_wp2
  go_ret
  exact ⟨rfl, (Below.refl _ _).alloc (Nat.le_refl _) _⟩

set_option maxRecDepth 100000 in
set_option maxHeartbeats 400000 in
theorem hasZone_6 (hi lo : Nat) (p4 p6 : Addr) (w : World) (hz : ZF w p4 p6) :
    Calls Tryd.prog 63 #[addrV hi lo (some p6)] w fun e w' => e = .returned (.bool false) ∧ Below w.heap.size w w' := by
  have e1 := fun o => (hz.alloc o).eq64
  have e2 := eqSame
  obtain ⟨⟨h0, h4, h6⟩, ⟨l0, l4, l6⟩, _⟩ := hz
  unfold addrV
  have q0 := h_neq_none
  go_enter Tryd.func63, Tryd.ntmps63
  go_wp2
  go_ret
  exact ⟨rfl, (Below.refl _ _).alloc (Nat.le_refl _) _⟩

set_option maxRecDepth 100000 in
set_option maxHeartbeats 1000000 in
theorem noZone_4 (hi lo : Nat) (p4 p6 : Addr) (w : World) (hz : ZF w p4 p6) :
    Calls Tryd.prog 62 #[addrV hi lo (some p4)] w fun e w' => e = .returned (addrV hi lo (some p4)) ∧ Below w.heap.size w w' := by
  have fr := fun (w : World) (hz : ZF w p4 p6) => is6_4 hi lo p4 p6 w hz
  unfold addrV at fr ⊢
  have FR := Lib.hid fr
  clear fr
  go_enter Tryd.func62, Tryd.ntmps62
  go_wp2_with fail
  refine (FR.out _ ((hz.alloc _).alloc _)).mono ?_
  rintro e w1 ⟨rfl, hb1⟩
  have c0 := (hb1.cell (p := ⟨w.heap.size, 0, none⟩) (by simp; omega))
  have c1 := (hb1.cell (p := ⟨w.heap.size, 1, none⟩) (by simp; omega))
  have c2 := (hb1.cell (p := ⟨w.heap.size, 2, none⟩) (by simp; omega))
  have d0 := (hb1.cell (p := ⟨w.heap.size + 1, 0, none⟩) (by simp))
  have d1 := (hb1.cell (p := ⟨w.heap.size + 1, 1, none⟩) (by simp))
  have d2 := (hb1.cell (p := ⟨w.heap.size + 1, 2, none⟩) (by simp))
  have f0 := (hb1.frozen (p := ⟨w.heap.size + 1, 0, none⟩) (by simp))
  have f1 := (hb1.frozen (p := ⟨w.heap.size + 1, 1, none⟩) (by simp))
  have f2 := (hb1.frozen (p := ⟨w.heap.size + 1, 2, none⟩) (by simp))
  simp at c0 c1 c2 d0 d1 d2 f0 f1 f2
  have hs1 := hb1.size
  simp at hs1
  obtain ⟨q0, q1, q2⟩ := set3 (.int .u64 (hi : Int)) (.int .u64 (lo : Int)) (.pointer (some p4)) d0 d1 d2
  go_wp2
  refine bodyPost_ret (v := .agg #[.int .u64 (hi : Int), .int .u64 (lo : Int), .pointer (some p4)]) (by simp [results, Tryd.results62, go_sem, q0, q1, q2]) rfl ⟨rfl, ?_⟩
  exact ((((((((Below.refl w.heap.size w).alloc (Nat.le_refl _) _).alloc (by simp) _).trans (hb1.mono (by simp; omega))).setCell (p := ⟨w.heap.size + 1, 0, none⟩) (by simp) _).setCell (p := ⟨w.heap.size + 1, 1, none⟩) (by simp) _).setCell (p := ⟨w.heap.size + 1, 2, none⟩) (by simp) _))

set_option maxRecDepth 100000 in
set_option maxHeartbeats 1000000 in
theorem noZone_6 (hi lo : Nat) (p4 p6 : Addr) (w : World) (hz : ZF w p4 p6) :
    Calls Tryd.prog 62 #[addrV hi lo (some p6)] w fun e w' => e = .returned (addrV hi lo (some p6)) ∧ Below w.heap.size w w' := by
  have fr := fun (w : World) (hz : ZF w p4 p6) => is6_6 hi lo p4 p6 w hz
  unfold addrV at fr ⊢
  have FR := Lib.hid fr
  clear fr
  go_enter Tryd.func62, Tryd.ntmps62
  go_wp2_with fail
  refine (FR.out _ ((hz.alloc _).alloc _)).mono ?_
  rintro e w1 ⟨rfl, hb1⟩
  have z1 := ((hz.alloc (.cells #[.int .u64 (hi : Int), .int .u64 (lo : Int), .pointer (some p6)] 60)).alloc (.cells #[.int .u64 0, .int .u64 0, .pointer none] 60)).below hb1
  have g6 := z1.1.2.2
  have c0 := (hb1.cell (p := ⟨w.heap.size, 0, none⟩) (by simp; omega))
  have c1 := (hb1.cell (p := ⟨w.heap.size, 1, none⟩) (by simp; omega))
  have c2 := (hb1.cell (p := ⟨w.heap.size, 2, none⟩) (by simp; omega))
  have e2 := (hb1.frozen (p := ⟨w.heap.size, 2, none⟩) (by simp; omega))
  have d0 := (hb1.cell (p := ⟨w.heap.size + 1, 0, none⟩) (by simp))
  have d1 := (hb1.cell (p := ⟨w.heap.size + 1, 1, none⟩) (by simp))
  have d2 := (hb1.cell (p := ⟨w.heap.size + 1, 2, none⟩) (by simp))
  have f0 := (hb1.frozen (p := ⟨w.heap.size + 1, 0, none⟩) (by simp))
  have f1 := (hb1.frozen (p := ⟨w.heap.size + 1, 1, none⟩) (by simp))
  have f2 := (hb1.frozen (p := ⟨w.heap.size + 1, 2, none⟩) (by simp))
  simp at c0 c1 c2 d0 d1 d2 e2 f0 f1 f2
  have hs1 := hb1.size
  simp at hs1
  have ne : ∀ k, (⟨w.heap.size + 1, k, none⟩ : Addr) ≠ ⟨w.heap.size, 2, none⟩ := fun k => by simp
  obtain ⟨q0, q1, q2⟩ := set3 (w := w1.setCell ⟨w.heap.size, 2, none⟩ (.pointer (some p6))) (.int .u64 (hi : Int)) (.int .u64 (lo : Int)) (.pointer (some p6)) ((World.cell?_setCell_other _ _ _ _ (ne 0).symm).trans d0) ((World.cell?_setCell_other _ _ _ _ (ne 1).symm).trans d1) ((World.cell?_setCell_other _ _ _ _ (ne 2).symm).trans d2)
  clear ne
  go_wp2
  refine bodyPost_ret (v := .agg #[.int .u64 (hi : Int), .int .u64 (lo : Int), .pointer (some p6)]) (by simp [results, Tryd.results62, go_sem, q0, q1, q2]) rfl ⟨rfl, ?_⟩
  exact (((((((((Below.refl w.heap.size w).alloc (Nat.le_refl _) _).alloc (by simp) _).trans (hb1.mono (by simp; omega))).setCell (p := ⟨w.heap.size, 2, none⟩) (by simp) _).setCell (p := ⟨w.heap.size + 1, 0, none⟩) (by simp) _).setCell (p := ⟨w.heap.size + 1, 1, none⟩) (by simp) _).setCell (p := ⟨w.heap.size + 1, 2, none⟩) (by simp) _))

set_option maxHeartbeats 400000 in
theorem pfxValid_any (hi lo b : Nat) (z : Option Addr) (w : World) (hb : 0 < b) (hb2 : b < 256) :
    Calls Tryd.prog 42 #[pfxV hi lo z b] w fun e w' => e = .returned (.bool true) ∧ Below w.heap.size w w' := by
  unfold pfxV
  go_enter Tryd.func42, Tryd.ntmps42
  go_wp2
  go_ret
  exact ⟨ret_bool (by first | (simp; done) | (simp; omega)), (Below.refl _ _).alloc (Nat.le_refl _) _⟩

set_option maxHeartbeats 400000 in
theorem pfxBits_any (hi lo n : Nat) (z : Option Addr) (w : World) (hn : n ≤ 128) :
    Calls Tryd.prog 65 #[pfxV hi lo z (n + 1)] w fun e w' => e = .returned (.int .i64 (n : Int)) ∧ Below w.heap.size w w' := by
  unfold pfxV
  go_enter Tryd.func65, Tryd.ntmps65
  go_wp2
  go_ret
  exact ⟨by first | (congr 2; done) | (congr 2; omega), (Below.refl _ _).alloc (Nat.le_refl _) _⟩

theorem set4 {w : World} {g : Nat} {a0 a1 a2 a3 : Value} (v0 v1 v2 v3 : Value) (h0 : w.cell? ⟨g, 0, none⟩ = some a0) (h1 : w.cell? ⟨g, 1, none⟩ = some a1) (h2 : w.cell? ⟨g, 2, none⟩ = some a2) (h3 : w.cell? ⟨g, 3, none⟩ = some a3) :
    ((((w.setCell ⟨g, 0, none⟩ v0).setCell ⟨g, 1, none⟩ v1).setCell ⟨g, 2, none⟩ v2).setCell ⟨g, 3, none⟩ v3).cell? ⟨g, 0, none⟩ = some v0 ∧ ((((w.setCell ⟨g, 0, none⟩ v0).setCell ⟨g, 1, none⟩ v1).setCell ⟨g, 2, none⟩ v2).setCell ⟨g, 3, none⟩ v3).cell? ⟨g, 1, none⟩ = some v1 ∧
    ((((w.setCell ⟨g, 0, none⟩ v0).setCell ⟨g, 1, none⟩ v1).setCell ⟨g, 2, none⟩ v2).setCell ⟨g, 3, none⟩ v3).cell? ⟨g, 2, none⟩ = some v2 ∧ ((((w.setCell ⟨g, 0, none⟩ v0).setCell ⟨g, 1, none⟩ v1).setCell ⟨g, 2, none⟩ v2).setCell ⟨g, 3, none⟩ v3).cell? ⟨g, 3, none⟩ = some v3 := by
  obtain ⟨q0, q1, q2⟩ := set3 v0 v1 v2 h0 h1 h2
  have n3 : ∀ k, k ≠ 3 → (⟨g, 3, none⟩ : Addr) ≠ ⟨g, k, none⟩ := fun k h e => h (by injection e with _ e; exact e.symm)
  have m3 : ∀ k, k ≠ 3 → (⟨g, k, none⟩ : Addr) ≠ ⟨g, 3, none⟩ := fun k h e => h (by injection e with _ e)
  refine ⟨(World.cell?_setCell_other _ _ _ _ (n3 0 (by decide))).trans q0, (World.cell?_setCell_other _ _ _ _ (n3 1 (by decide))).trans q1, (World.cell?_setCell_other _ _ _ _ (n3 2 (by decide))).trans q2, ?_⟩
  exact World.cell?_setCell_same _ _ _ ((World.cell?_setCell_other _ _ _ _ (m3 2 (by decide))).trans ((World.cell?_setCell_other _ _ _ _ (m3 1 (by decide))).trans ((World.cell?_setCell_other _ _ _ _ (m3 0 (by decide))).trans h3)))


set_option maxRecDepth 100000 in
set_option maxHeartbeats 2000000 in
theorem prefixFrom_4 (hi lo n : Nat) (p4 p6 : Addr) (w : World) (hz : ZF w p4 p6) (hn : n ≤ 32) :
    Calls Tryd.prog 40 #[addrV hi lo (some p4), .int .i64 (n : Int)] w fun e w' => e = .returned (pfxV hi lo (some p4) (n + 1)) ∧ Below w.heap.size w w' := by
  have f1 := fun (w : World) (hz : ZF w p4 p6) => isZero_any hi lo p4 p4 p6 w hz
  have f2 := fun (w : World) (hz : ZF w p4 p6) => bitLen_4 hi lo p4 p6 w hz
  have f3 := fun (w : World) (hz : ZF w p4 p6) => noZone_4 hi lo p4 p6 w hz
  unfold addrV at f1 f2 f3 ⊢
  unfold pfxV
  have F1 := Lib.hid f1
  have F2 := Lib.hid f2
  have F3 := Lib.hid f3
  clear f1 f2 f3
  have hn1 : (n : Int) ≤ 32 := by omega
  go_enter Tryd.func40, Tryd.ntmps40
  go_wp2_with fail
  refine (F1.out _ ((hz.alloc _).alloc _)).mono ?_
  rintro e w1 ⟨rfl, hb1⟩
  have hs1 := hb1.size
  simp at hs1
  have bA : Below w.heap.size w w1 := (((Below.refl w.heap.size w).alloc (Nat.le_refl _) _).alloc (by simp) _).trans (hb1.mono (by simp; omega))
  have c0 := (hb1.cell (p := ⟨w.heap.size, 0, none⟩) (by simp; omega))
  have c1 := (hb1.cell (p := ⟨w.heap.size, 1, none⟩) (by simp; omega))
  have c2 := (hb1.cell (p := ⟨w.heap.size, 2, none⟩) (by simp; omega))
  have d0 := (hb1.cell (p := ⟨w.heap.size + 1, 0, none⟩) (by simp))
  have d1 := (hb1.cell (p := ⟨w.heap.size + 1, 1, none⟩) (by simp))
  have d2 := (hb1.cell (p := ⟨w.heap.size + 1, 2, none⟩) (by simp))
  have d3 := (hb1.cell (p := ⟨w.heap.size + 1, 3, none⟩) (by simp))
  have f0 := (hb1.frozen (p := ⟨w.heap.size + 1, 0, none⟩) (by simp))
  have f1 := (hb1.frozen (p := ⟨w.heap.size + 1, 1, none⟩) (by simp))
  have f2 := (hb1.frozen (p := ⟨w.heap.size + 1, 2, none⟩) (by simp))
  have f3 := (hb1.frozen (p := ⟨w.heap.size + 1, 3, none⟩) (by simp))
  simp at c0 c1 c2 d0 d1 d2 d3 f0 f1 f2 f3
  go_wp2_with fail
  refine (F2.out _ (hz.below bA)).mono ?_
  rintro e w2 ⟨rfl, hb2⟩
  have hs2 := hb2.size
  have bB : Below w.heap.size w w2 := bA.trans (hb2.mono (by omega))
  have cc0 := (hb2.cell (p := ⟨w.heap.size, 0, none⟩) (by simp; omega)).trans c0
  have cc1 := (hb2.cell (p := ⟨w.heap.size, 1, none⟩) (by simp; omega)).trans c1
  have cc2 := (hb2.cell (p := ⟨w.heap.size, 2, none⟩) (by simp; omega)).trans c2
  go_wp2_with fail
  refine (F3.out _ (hz.below bB)).mono ?_
  rintro e w3 ⟨rfl, hb3'⟩
  have hb3 := hb2.trans (hb3'.mono hb2.size)
  have hs3 := hb3'.size
  have bC : Below w.heap.size w w3 := bB.trans (hb3'.mono (by omega))
  have dd0 := (hb3.cell (p := ⟨w.heap.size + 1, 0, none⟩) (by simp; omega)).trans d0
  have dd1 := (hb3.cell (p := ⟨w.heap.size + 1, 1, none⟩) (by simp; omega)).trans d1
  have dd2 := (hb3.cell (p := ⟨w.heap.size + 1, 2, none⟩) (by simp; omega)).trans d2
  have dd3 := (hb3.cell (p := ⟨w.heap.size + 1, 3, none⟩) (by simp; omega)).trans d3
  have ff0 := (hb3.frozen (p := ⟨w.heap.size + 1, 0, none⟩) (by simp; omega)).trans f0
  have ff1 := (hb3.frozen (p := ⟨w.heap.size + 1, 1, none⟩) (by simp; omega)).trans f1
  have ff2 := (hb3.frozen (p := ⟨w.heap.size + 1, 2, none⟩) (by simp; omega)).trans f2
  have ff3 := (hb3.frozen (p := ⟨w.heap.size + 1, 3, none⟩) (by simp; omega)).trans f3
  obtain ⟨q0, q1, q2, q3⟩ := set4 (.int .u64 (hi : Int)) (.int .u64 (lo : Int)) (.pointer (some p4)) (.int .u8 ((n : Int) + 1)) dd0 dd1 dd2 dd3
  clear c0 c1 c2 cc0 cc1 cc2 d0 d1 d2 d3 f0 f1 f2 f3
  go_wp2
  refine bodyPost_ret (v := .agg #[.int .u64 (hi : Int), .int .u64 (lo : Int), .pointer (some p4), .int .u8 ((n : Int) + 1)]) (by simp [results, Tryd.results40, go_sem, q0, q1, q2, q3]) rfl ⟨by simp, ?_⟩
  exact (((bC.setCell (p := ⟨w.heap.size + 1, 0, none⟩) (by simp) _).setCell (p := ⟨w.heap.size + 1, 1, none⟩) (by simp) _).setCell (p := ⟨w.heap.size + 1, 2, none⟩) (by simp) _).setCell (p := ⟨w.heap.size + 1, 3, none⟩) (by simp) _


set_option maxRecDepth 100000 in
set_option maxHeartbeats 2000000 in
theorem prefixFrom_6 (hi lo n : Nat) (p4 p6 : Addr) (w : World) (hz : ZF w p4 p6) (hn : n ≤ 128) :
    Calls Tryd.prog 40 #[addrV hi lo (some p6), .int .i64 (n : Int)] w fun e w' => e = .returned (pfxV hi lo (some p6) (n + 1)) ∧ Below w.heap.size w w' := by
  have f1 := fun (w : World) (hz : ZF w p4 p6) => isZero_any hi lo p6 p4 p6 w hz
  have f2 := fun (w : World) (hz : ZF w p4 p6) => bitLen_6 hi lo p4 p6 w hz
  have f3 := fun (w : World) (hz : ZF w p4 p6) => noZone_6 hi lo p4 p6 w hz
  unfold addrV at f1 f2 f3 ⊢
  unfold pfxV
  have F1 := Lib.hid f1
  have F2 := Lib.hid f2
  have F3 := Lib.hid f3
  clear f1 f2 f3
  have hn1 : (n : Int) ≤ 128 := by omega
  go_enter Tryd.func40, Tryd.ntmps40
  go_wp2_with fail
  refine (F1.out _ ((hz.alloc _).alloc _)).mono ?_
  rintro e w1 ⟨rfl, hb1⟩
  have hs1 := hb1.size
  simp at hs1
  have bA : Below w.heap.size w w1 := (((Below.refl w.heap.size w).alloc (Nat.le_refl _) _).alloc (by simp) _).trans (hb1.mono (by simp; omega))
  have c0 := (hb1.cell (p := ⟨w.heap.size, 0, none⟩) (by simp; omega))
  have c1 := (hb1.cell (p := ⟨w.heap.size, 1, none⟩) (by simp; omega))
  have c2 := (hb1.cell (p := ⟨w.heap.size, 2, none⟩) (by simp; omega))
  have d0 := (hb1.cell (p := ⟨w.heap.size + 1, 0, none⟩) (by simp))
  have d1 := (hb1.cell (p := ⟨w.heap.size + 1, 1, none⟩) (by simp))
  have d2 := (hb1.cell (p := ⟨w.heap.size + 1, 2, none⟩) (by simp))
  have d3 := (hb1.cell (p := ⟨w.heap.size + 1, 3, none⟩) (by simp))
  have f0 := (hb1.frozen (p := ⟨w.heap.size + 1, 0, none⟩) (by simp))
  have f1 := (hb1.frozen (p := ⟨w.heap.size + 1, 1, none⟩) (by simp))
  have f2 := (hb1.frozen (p := ⟨w.heap.size + 1, 2, none⟩) (by simp))
  have f3 := (hb1.frozen (p := ⟨w.heap.size + 1, 3, none⟩) (by simp))
  simp at c0 c1 c2 d0 d1 d2 d3 f0 f1 f2 f3
  go_wp2_with fail
  refine (F2.out _ (hz.below bA)).mono ?_
  rintro e w2 ⟨rfl, hb2⟩
  have hs2 := hb2.size
  have bB : Below w.heap.size w w2 := bA.trans (hb2.mono (by omega))
  have cc0 := (hb2.cell (p := ⟨w.heap.size, 0, none⟩) (by simp; omega)).trans c0
  have cc1 := (hb2.cell (p := ⟨w.heap.size, 1, none⟩) (by simp; omega)).trans c1
  have cc2 := (hb2.cell (p := ⟨w.heap.size, 2, none⟩) (by simp; omega)).trans c2
  go_wp2_with fail
  refine (F3.out _ (hz.below bB)).mono ?_
  rintro e w3 ⟨rfl, hb3'⟩
  have hb3 := hb2.trans (hb3'.mono hb2.size)
  have hs3 := hb3'.size
  have bC : Below w.heap.size w w3 := bB.trans (hb3'.mono (by omega))
  have dd0 := (hb3.cell (p := ⟨w.heap.size + 1, 0, none⟩) (by simp; omega)).trans d0
  have dd1 := (hb3.cell (p := ⟨w.heap.size + 1, 1, none⟩) (by simp; omega)).trans d1
  have dd2 := (hb3.cell (p := ⟨w.heap.size + 1, 2, none⟩) (by simp; omega)).trans d2
  have dd3 := (hb3.cell (p := ⟨w.heap.size + 1, 3, none⟩) (by simp; omega)).trans d3
  have ff0 := (hb3.frozen (p := ⟨w.heap.size + 1, 0, none⟩) (by simp; omega)).trans f0
  have ff1 := (hb3.frozen (p := ⟨w.heap.size + 1, 1, none⟩) (by simp; omega)).trans f1
  have ff2 := (hb3.frozen (p := ⟨w.heap.size + 1, 2, none⟩) (by simp; omega)).trans f2
  have ff3 := (hb3.frozen (p := ⟨w.heap.size + 1, 3, none⟩) (by simp; omega)).trans f3
  obtain ⟨q0, q1, q2, q3⟩ := set4 (.int .u64 (hi : Int)) (.int .u64 (lo : Int)) (.pointer (some p6)) (.int .u8 ((n : Int) + 1)) dd0 dd1 dd2 dd3
  clear c0 c1 c2 cc0 cc1 cc2 d0 d1 d2 d3 f0 f1 f2 f3
  go_wp2
  refine bodyPost_ret (v := .agg #[.int .u64 (hi : Int), .int .u64 (lo : Int), .pointer (some p6), .int .u8 ((n : Int) + 1)]) (by simp [results, Tryd.results40, go_sem, q0, q1, q2, q3]) rfl ⟨by simp, ?_⟩
  exact (((bC.setCell (p := ⟨w.heap.size + 1, 0, none⟩) (by simp) _).setCell (p := ⟨w.heap.size + 1, 1, none⟩) (by simp) _).setCell (p := ⟨w.heap.size + 1, 2, none⟩) (by simp) _).setCell (p := ⟨w.heap.size + 1, 3, none⟩) (by simp) _
end Go.Proofs.YtjepkkfpgmgnjaaDoor
