/-
  Contract of netip.AddrFromSlice. No condition.
-/
import Derived.Test.YtjepkkfpgmgnjaaDoorNetipFrom
namespace Go.Proofs.YtjepkkfpgmgnjaaDoor
open Go.RowKit
set_option linter.unusedVariables false

theorem set3 {w : World} {g : Nat} {a0 a1 a2 : Value} (v0 v1 v2 : Value) (h0 : w.cell? ⟨g, 0, none⟩ = some a0) (h1 : w.cell? ⟨g, 1, none⟩ = some a1) (h2 : w.cell? ⟨g, 2, none⟩ = some a2) :
    (((w.setCell ⟨g, 0, none⟩ v0).setCell ⟨g, 1, none⟩ v1).setCell ⟨g, 2, none⟩ v2).cell? ⟨g, 0, none⟩ = some v0 ∧ (((w.setCell ⟨g, 0, none⟩ v0).setCell ⟨g, 1, none⟩ v1).setCell ⟨g, 2, none⟩ v2).cell? ⟨g, 1, none⟩ = some v1 ∧ (((w.setCell ⟨g, 0, none⟩ v0).setCell ⟨g, 1, none⟩ v1).setCell ⟨g, 2, none⟩ v2).cell? ⟨g, 2, none⟩ = some v2 := by
  have n20 : (⟨g, 2, none⟩ : Addr) ≠ ⟨g, 0, none⟩ := by simp
  have n10 : (⟨g, 1, none⟩ : Addr) ≠ ⟨g, 0, none⟩ := by simp
  have n21 : (⟨g, 2, none⟩ : Addr) ≠ ⟨g, 1, none⟩ := by simp
  have n01 : (⟨g, 0, none⟩ : Addr) ≠ ⟨g, 1, none⟩ := by simp
  have n02 : (⟨g, 0, none⟩ : Addr) ≠ ⟨g, 2, none⟩ := by simp
  have n12 : (⟨g, 1, none⟩ : Addr) ≠ ⟨g, 2, none⟩ := by simp
  refine ⟨?_, ?_, ?_⟩
  · rw [World.cell?_setCell_other (h := n20), World.cell?_setCell_other (h := n10)]
    exact World.cell?_setCell_same _ _ _ h0
  · rw [World.cell?_setCell_other (h := n21)]
    exact World.cell?_setCell_same _ _ _ ((World.cell?_setCell_other _ _ _ _ n01).trans h1)
  · exact World.cell?_setCell_same _ _ _ ((World.cell?_setCell_other _ _ _ _ n12).trans ((World.cell?_setCell_other _ _ _ _ n02).trans h2))

set_option maxRecDepth 100000 in
set_option maxHeartbeats 1000000 in
theorem fromSlice_4 (A : Option Addr) (c : Nat) (xs : List UInt8) (p4 p6 : Addr) (w : World) (hn : xs.length = 4) (ha : Rd w A xs) (hz : ZF w p4 p6) :
    Calls Tryd.prog 39 #[.slice A 4 c] w fun e w' => e = .returned (.tuple #[addrV 0 (lo4 xs) (some p4), .bool true]) ∧ Below w.heap.size w w' := by
  obtain ⟨b, off, rfl, _, hcell⟩ := (ha.alloc (.cells #[.int .u64 0, .int .u64 0, .pointer none] 60)).at_ (k := 0) (by omega)
  match xs, hn with
  | [x0, x1, x2, x3], _ =>
    have d0 := hcell 0 (by simp)
    have d1 := hcell 1 (by simp)
    have d2 := hcell 2 (by simp)
    have d3 := hcell 3 (by simp)
    simp only [List.getElem_cons_zero, List.getElem_cons_succ, Nat.add_zero] at d0 d1 d2 d3
    clear hcell
    have fr := (from4_any [x0, x1, x2, x3] p4 p6 (w.alloc (.cells #[.int .u64 0, .int .u64 0, .pointer none] 60)) rfl (hz.alloc _))
    generalize lo4 [x0, x1, x2, x3] = ll at fr ⊢
    have ecb : (cb [x0, x1, x2, x3]).toArray = #[.int .u8 (x0.toNat : Int), .int .u8 (x1.toNat : Int), .int .u8 (x2.toNat : Int), .int .u8 (x3.toNat : Int)] := rfl
    rw [ecb] at fr
    clear ecb
    unfold addrV at fr ⊢
    have FR := Lib.hid fr
    clear fr
    have ar : ∀ (a : Addr) (c : Nat) (w : World), (Instr.arrayAt 83 (.slice (some a) 4 c)).run Tryd.prog w = .ok (.pointer (some a)) w := fun _ _ _ => by kernel_rfl
    go_enter Tryd.func39, Tryd.ntmps39
    go_wp2_with fail
    refine FR.out.mono ?_
    rintro e w1 ⟨rfl, hb1⟩
    have c0 := (hb1.cell (p := ⟨w.heap.size, 0, none⟩) (by simp))
    have c1 := (hb1.cell (p := ⟨w.heap.size, 1, none⟩) (by simp))
    have c2 := (hb1.cell (p := ⟨w.heap.size, 2, none⟩) (by simp))
    have f0 := (hb1.frozen (p := ⟨w.heap.size, 0, none⟩) (by simp))
    have f1 := (hb1.frozen (p := ⟨w.heap.size, 1, none⟩) (by simp))
    have f2 := (hb1.frozen (p := ⟨w.heap.size, 2, none⟩) (by simp))
    simp at c0 c1 c2 f0 f1 f2
    have hs1 := hb1.size
    simp at hs1
    obtain ⟨q0, q1, q2⟩ := set3 (.int .u64 0) (.int .u64 (ll : Int)) (.pointer (some p4)) c0 c1 c2
    clear d0 d1 d2 d3
    go_wp2
    refine bodyPost_ret (v := .tuple #[.agg #[.int .u64 0, .int .u64 (ll : Int), .pointer (some p4)], .bool true]) (by simp [results, Tryd.results39, go_sem, q0, q1, q2]) rfl ⟨rfl, ?_⟩
    exact ((((((Below.refl w.heap.size w).alloc (Nat.le_refl _) _).trans (hb1.mono (by simp))).setCell (p := ⟨w.heap.size, 0, none⟩) (Nat.le_refl _) _).setCell (p := ⟨w.heap.size, 1, none⟩) (Nat.le_refl _) _).setCell (p := ⟨w.heap.size, 2, none⟩) (Nat.le_refl _) _)

set_option maxRecDepth 100000 in
set_option maxHeartbeats 1000000 in
theorem fromSlice_16 (A : Option Addr) (c : Nat) (xs : List UInt8) (p4 p6 : Addr) (w : World) (hn : xs.length = 16) (ha : Rd w A xs) (hz : ZF w p4 p6) :
    Calls Tryd.prog 39 #[.slice A 16 c] w fun e w' => e = .returned (.tuple #[addrV (be (xs.take 8)) (be (xs.drop 8)) (some p6), .bool true]) ∧ Below w.heap.size w w' := by
  obtain ⟨b, off, rfl, _, hcell⟩ := (ha.alloc (.cells #[.int .u64 0, .int .u64 0, .pointer none] 60)).at_ (k := 0) (by omega)
  match xs, hn with
  | [x0, x1, x2, x3, x4, x5, x6, x7, x8, x9, x10, x11, x12, x13, x14, x15], _ =>
    have d0 := hcell 0 (by simp)
    have d1 := hcell 1 (by simp)
    have d2 := hcell 2 (by simp)
    have d3 := hcell 3 (by simp)
    have d4 := hcell 4 (by simp)
    have d5 := hcell 5 (by simp)
    have d6 := hcell 6 (by simp)
    have d7 := hcell 7 (by simp)
    have d8 := hcell 8 (by simp)
    have d9 := hcell 9 (by simp)
    have d10 := hcell 10 (by simp)
    have d11 := hcell 11 (by simp)
    have d12 := hcell 12 (by simp)
    have d13 := hcell 13 (by simp)
    have d14 := hcell 14 (by simp)
    have d15 := hcell 15 (by simp)
    simp only [List.getElem_cons_zero, List.getElem_cons_succ, Nat.add_zero] at d0 d1 d2 d3 d4 d5 d6 d7 d8 d9 d10 d11 d12 d13 d14 d15
    clear hcell
    have fr := (from16_any [x0, x1, x2, x3, x4, x5, x6, x7, x8, x9, x10, x11, x12, x13, x14, x15] p4 p6 (w.alloc (.cells #[.int .u64 0, .int .u64 0, .pointer none] 60)) rfl (hz.alloc _))
    generalize be (List.take 8 [x0, x1, x2, x3, x4, x5, x6, x7, x8, x9, x10, x11, x12, x13, x14, x15]) = hh at fr ⊢
    generalize be (List.drop 8 [x0, x1, x2, x3, x4, x5, x6, x7, x8, x9, x10, x11, x12, x13, x14, x15]) = ll at fr ⊢
    have ecb : (cb [x0, x1, x2, x3, x4, x5, x6, x7, x8, x9, x10, x11, x12, x13, x14, x15]).toArray = #[.int .u8 (x0.toNat : Int), .int .u8 (x1.toNat : Int), .int .u8 (x2.toNat : Int), .int .u8 (x3.toNat : Int), .int .u8 (x4.toNat : Int), .int .u8 (x5.toNat : Int), .int .u8 (x6.toNat : Int), .int .u8 (x7.toNat : Int), .int .u8 (x8.toNat : Int), .int .u8 (x9.toNat : Int), .int .u8 (x10.toNat : Int), .int .u8 (x11.toNat : Int), .int .u8 (x12.toNat : Int), .int .u8 (x13.toNat : Int), .int .u8 (x14.toNat : Int), .int .u8 (x15.toNat : Int)] := rfl
    rw [ecb] at fr
    clear ecb
    unfold addrV at fr ⊢
    have FR := Lib.hid fr
    clear fr
    have ar : ∀ (a : Addr) (c : Nat) (w : World), (Instr.arrayAt 85 (.slice (some a) 16 c)).run Tryd.prog w = .ok (.pointer (some a)) w := fun _ _ _ => by kernel_rfl
    go_enter Tryd.func39, Tryd.ntmps39
    go_wp2_with fail
    refine FR.out.mono ?_
    rintro e w1 ⟨rfl, hb1⟩
    have c0 := (hb1.cell (p := ⟨w.heap.size, 0, none⟩) (by simp))
    have c1 := (hb1.cell (p := ⟨w.heap.size, 1, none⟩) (by simp))
    have c2 := (hb1.cell (p := ⟨w.heap.size, 2, none⟩) (by simp))
    have f0 := (hb1.frozen (p := ⟨w.heap.size, 0, none⟩) (by simp))
    have f1 := (hb1.frozen (p := ⟨w.heap.size, 1, none⟩) (by simp))
    have f2 := (hb1.frozen (p := ⟨w.heap.size, 2, none⟩) (by simp))
    simp at c0 c1 c2 f0 f1 f2
    have hs1 := hb1.size
    simp at hs1
    obtain ⟨q0, q1, q2⟩ := set3 (.int .u64 (hh : Int)) (.int .u64 (ll : Int)) (.pointer (some p6)) c0 c1 c2
    clear d0 d1 d2 d3 d4 d5 d6 d7 d8 d9 d10 d11 d12 d13 d14 d15
    go_wp2
    refine bodyPost_ret (v := .tuple #[.agg #[.int .u64 (hh : Int), .int .u64 (ll : Int), .pointer (some p6)], .bool true]) (by simp [results, Tryd.results39, go_sem, q0, q1, q2]) rfl ⟨rfl, ?_⟩
    exact ((((((Below.refl w.heap.size w).alloc (Nat.le_refl _) _).trans (hb1.mono (by simp))).setCell (p := ⟨w.heap.size, 0, none⟩) (Nat.le_refl _) _).setCell (p := ⟨w.heap.size, 1, none⟩) (Nat.le_refl _) _).setCell (p := ⟨w.heap.size, 2, none⟩) (Nat.le_refl _) _)

end Go.Proofs.YtjepkkfpgmgnjaaDoor
