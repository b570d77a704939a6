/-
  Contracts of net.IPv4Mask, impl.IPv4, impl.IPv4Mask, and the walk of the statement FnIPv4: it returns true and changes nothing that was there.
-/
import Derived.Test.YtebnhhifodmkkaaDoorIPv4
import Derived.Test.YtebnhhifodmkkaaDoorSpecTo16
import Derived.OpenShut
namespace Go.Proofs.YtebnhhifodmkkaaDoor
open Go.RowKit
set_option linter.unusedVariables false

set_option maxHeartbeats 400000 in
theorem ipv4Mask_any (a b c d : UInt8) (w : World) :
    Calls Tryd.prog 25 #[.int .u8 (a.toNat : Int), .int .u8 (b.toNat : Int), .int .u8 (c.toNat : Int), .int .u8 (d.toNat : Int)] w fun e w' =>
      e = .returned (.slice (some ⟨w.heap.size, 0, none⟩) 4 4) ∧ w'.ownsRow w.heap.size 5 1 (.slice (some ⟨w.heap.size, 0, none⟩) 4 4) [a, b, c, d].length (cb [a, b, c, d]) ∧ Below w.heap.size w w' := by
  go_enter Tryd.func25, Tryd.ntmps25
  go_wp2_with (refine wpList_mk8 rfl _ _ 37 rfl 5 Tryd.underlying37 info8 .i64 .i64 _ _ 4 rfl rfl rfl rfl (by decide) ?_)
  intro w1 hown hg
  have hb1 : Below w.heap.size w w1 := (Below.refl _ _).grown hg (Nat.le_refl _) (by simp)
  have ho2 : w1.ownsRow w.heap.size 5 1 (.slice (some ⟨w.heap.size, 0, none⟩) 4 4) [(0 : UInt8), 0, 0, 0].length (cb [0, 0, 0, 0]) := hown
  have c0 := own_cell ho2 (j := 0) (by decide) rfl
  have c1 := own_cell ho2 (j := 1) (by decide) rfl
  have c2 := own_cell ho2 (j := 2) (by decide) rfl
  have c3 := own_cell ho2 (j := 3) (by decide) rfl
  have f0 := own_frozen ho2 0 rfl
  have f1 := own_frozen ho2 1 rfl
  have f2 := own_frozen ho2 2 rfl
  have f3 := own_frozen ho2 3 rfl
  clear hown
  go_wp2
  go_ret
  refine ⟨rfl, ?_, ?_⟩
  · exact own_store (own_store (own_store (own_store ho2 (j := 0) a rfl) (j := 1) b rfl) (j := 2) c rfl) (j := 3) d rfl
  · exact (((hb1.setCell (p := ⟨w.heap.size, 0, none⟩) (Nat.le_refl _) _).setCell (p := ⟨w.heap.size, 1, none⟩) (Nat.le_refl _) _).setCell (p := ⟨w.heap.size, 2, none⟩) (Nat.le_refl _) _).setCell (p := ⟨w.heap.size, 3, none⟩) (Nat.le_refl _) _

theorem implIPv4_any (a b c d : UInt8) (w : World) (hv : V4 w) :
    Calls Tryd.prog 14 #[.int .u8 (a.toNat : Int), .int .u8 (b.toNat : Int), .int .u8 (c.toNat : Int), .int .u8 (d.toNat : Int)] w fun e w' => OwnBack 5 w (mp ++ [a, b, c, d]) e w' := by
  go_enter Tryd.func14, Tryd.ntmps14
  go_wp2_with fail
  refine (ipv4_any a b c d _ hv).mono ?_
  rintro e w1 ⟨rfl, hown, hb1⟩
  go_wp2_with fail
  refine (plain_any _ _ _ (mp ++ [a, b, c, d]) _ rfl (by exact Rd.of_own hown) (by simp [mp])).mono ?_
  rintro e w2 ⟨A2, n2, c2, rfl, hn2, hown2, hb2⟩
  have HN := Lib.hid hn2
  clear hn2
  go_wp2
  go_ret
  exact OwnBack.lift ⟨A2, n2, c2, rfl, HN.out, hown2, hb2⟩ hb1

theorem implIPv4Mask_any (a b c d : UInt8) (w : World) :
    Calls Tryd.prog 15 #[.int .u8 (a.toNat : Int), .int .u8 (b.toNat : Int), .int .u8 (c.toNat : Int), .int .u8 (d.toNat : Int)] w fun e w' => OwnBack 5 w [a, b, c, d] e w' := by
  go_enter Tryd.func15, Tryd.ntmps15
  go_wp2_with fail
  refine (ipv4Mask_any a b c d _).mono ?_
  rintro e w1 ⟨rfl, hown, hb1⟩
  go_wp2_with fail
  refine (plain_any _ _ _ [a, b, c, d] _ rfl (by exact Rd.of_own hown) (by simp)).mono ?_
  rintro e w2 ⟨A2, n2, c2, rfl, hn2, hown2, hb2⟩
  have HN := Lib.hid hn2
  clear hn2
  go_wp2
  go_ret
  exact OwnBack.lift ⟨A2, n2, c2, rfl, HN.out, hown2, hb2⟩ hb1

set_option maxHeartbeats 400000 in
theorem walkb_FnIPv4 (a b c d : UInt8) (w : World) (hv : V4 w) :
    Calls Tryd.prog 5 #[.int .u8 (a.toNat : Int), .int .u8 (b.toNat : Int), .int .u8 (c.toNat : Int), .int .u8 (d.toNat : Int)] w fun e w' => e = .returned (.bool true) ∧ Below w.heap.size w w' := by
  have hle := to16_le [a, b, c, d]
  have HT := Lib.hid (to16_four (xs := [a, b, c, d]) rfl)
  go_enter Tryd.func5, Tryd.ntmps5
  go_wp2_with fail
  refine (bytes_any _ _ _ [a, b, c, d] _ rfl (Rd.new _ _ _ [a, b, c, d] rfl) (by simp)).mono ?_
  rintro e w1 ⟨A1, n1, c1, rfl, hn1, hown1, hb1'⟩
  have hb1 : Below w.heap.size w w1 := ((Below.refl _ _).alloc (Nat.le_refl _) _).trans (hb1'.mono (by simp))
  clear hb1'
  obtain rfl : n1 = 4 := hn1.symm
  clear hn1
  go_wp2_with fail
  refine (specTo16_any _ _ _ [a, b, c, d] _ rfl (by exact Rd.of_own hown1)).mono ?_
  rintro e w2 ⟨A2, n2, c2, rfl, hn2, hown2, hb2⟩
  rw [HT.out] at hn2 hown2
  obtain rfl : n2 = 16 := hn2.symm
  clear hn2
  have hb12 := hb1.trans (hb2.mono hb1.size)
  go_wp2_with fail
  refine (implIPv4_any a b c d _ (by exact hv.below hb12)).mono ?_
  rintro e w3 ⟨A3, n3, c3, rfl, hn3, hown3, hb3⟩
  obtain rfl : n3 = 16 := hn3.symm
  clear hn3
  have hb13 := hb12.trans (hb3.mono hb12.size)
  go_wp2_with fail
  refine (same_any _ _ _ _ _ _ (mp ++ [a, b, c, d]) (mp ++ [a, b, c, d]) _ rfl rfl (by exact Rd.of_own hown3) (by exact (Rd.of_own (xs := mp ++ [a, b, c, d]) hown2).below hb3) (by simp [mp]) true (eqb_true rfl)).mono ?_
  rintro e w4 ⟨rfl, k4, rfl⟩
  go_wp2_with fail
  refine (implIPv4Mask_any a b c d _).mono ?_
  rintro e w5 ⟨A5, n5, c5, rfl, hn5, hown5, hb5'⟩
  obtain rfl : n5 = 4 := hn5.symm
  clear hn5
  have hb5 := below_undrewN hb5'
  clear hb5'
  have hb15 := hb13.trans (hb5.mono hb13.size)
  go_wp2_with fail
  refine (bytes_any _ _ _ [a, b, c, d] _ rfl (Rd.new _ _ _ [a, b, c, d] rfl) (by simp)).mono ?_
  rintro e w6 ⟨A6, n6, c6, rfl, hn6, hown6, hb6'⟩
  have hb6 : Below w5.heap.size w5 w6 := ((Below.refl _ _).alloc (Nat.le_refl _) _).trans (hb6'.mono (by simp))
  clear hb6'
  obtain rfl : n6 = 4 := hn6.symm
  clear hn6
  have hb16 := hb15.trans (hb6.mono hb15.size)
  go_wp2_with fail
  refine (same_any _ _ _ _ _ _ [a, b, c, d] [a, b, c, d] _ rfl rfl (by exact (Rd.of_own hown5).below hb6) (by exact Rd.of_own hown6) (by simp) true (eqb_true rfl)).mono ?_
  rintro e w7 ⟨rfl, k7, rfl⟩
  go_wp2
  go_ret
  exact ⟨rfl, below_drewN hb16 _⟩

theorem byte_of {i : Int} (h : (Lit.int .u8 i).wf = true) : ∃ a : UInt8, i = (a.toNat : Int) := by
  have hb := bounds_u8 h
  exact ⟨UInt8.ofNat i.toNat, by simp only [UInt8.toNat_ofNat']; omega⟩

theorem walk_FnIPv4 (i0 i1 i2 i3 : Int) (w : World) (h0 : (Lit.int .u8 i0).wf = true) (h1 : (Lit.int .u8 i1).wf = true) (h2 : (Lit.int .u8 i2).wf = true) (h3 : (Lit.int .u8 i3).wf = true) (hv : V4 w) :
    Calls Tryd.prog 5 #[.int .u8 i0, .int .u8 i1, .int .u8 i2, .int .u8 i3] w fun e w' => e = .returned (.bool true) ∧ Below w.heap.size w w' := by
  obtain ⟨a, rfl⟩ := byte_of h0
  obtain ⟨b, rfl⟩ := byte_of h1
  obtain ⟨c, rfl⟩ := byte_of h2
  obtain ⟨d, rfl⟩ := byte_of h3
  exact walkb_FnIPv4 a b c d w hv
end Go.Proofs.YtebnhhifodmkkaaDoor
