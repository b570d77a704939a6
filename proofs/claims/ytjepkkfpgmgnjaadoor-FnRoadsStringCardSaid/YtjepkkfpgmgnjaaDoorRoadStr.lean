/-
  Contracts of (netip.Addr).IsValid, (netip.Addr).String and impl.RoadString. No condition.
-/
import Derived.Test.YtjepkkfpgmgnjaaDoorIPString
import Derived.Test.YtjepkkfpgmgnjaaDoorUnmap
namespace Go.Proofs.YtjepkkfpgmgnjaaDoor
open Go.RowKit
set_option linter.unusedVariables false

set_option maxRecDepth 100000 in
set_option maxHeartbeats 400000 in
theorem isValid_any (hi lo : Nat) (p p4 p6 : Addr) (w : World) (hz : ZF w p4 p6) :
    Calls Tryd.prog 74 #[addrV hi lo (some p)] w fun e w' => e = .returned (.bool true) ∧ Below w.heap.size w w' := by
  obtain ⟨⟨h0, h4, h6⟩, ⟨l0, l4, l6⟩, _⟩ := hz
  unfold addrV
  have q0 := h_neq_none
  go_enter Tryd.func74, Tryd.ntmps74
  go_wp2
  go_ret
  exact ⟨rfl, (Below.refl _ _).alloc (Nat.le_refl _) _⟩

set_option maxRecDepth 100000 in
set_option maxHeartbeats 2000000 in
theorem nString_4 (xs : List UInt8) (p4 p6 : Addr) (w : World) (hz : ZF w p4 p6) (hx : xs.length = 4) :
    Calls Tryd.prog 46 #[addrV 0 (lo4 xs) (some p4)] w fun e w' => e = .returned (.string ⟨(dot4 xs).toArray⟩) ∧ Below w.heap.size w w' := by
  have HX := Lib.hid hx
  obtain ⟨i8, hi8, hz0, hz1, hz2⟩ := info_parts info8
  have e4 := eqSame
  have fr := fun (A : Option Addr) (nn c : Nat) (l : List UInt8) (w1 : World) => appTo4_any A nn c w.heap.size l xs (some p4) w1 HX.out
  have fv := fun (w1 : World) => isValid_any 0 (lo4 xs) p4 p4 p6 w1
  clear hx
  generalize lo4 xs = L at fr fv ⊢
  unfold addrV at fr fv ⊢
  have FR := Lib.hid fr
  have FV := Lib.hid fv
  clear fr fv
  go_enter Tryd.func46, Tryd.ntmps46
  go_wp2_with fail
  refine (FV.out _ (hz.alloc _)).mono ?_
  rintro e w1 ⟨rfl, hb1⟩
  have z1 := (hz.alloc (.cells #[.int .u64 0, .int .u64 (L : Int), .pointer (some p4)] 60)).below hb1
  have g4 := z1.1.2.1
  have c0 := (hb1.cell (p := ⟨w.heap.size, 0, none⟩) (by simp))
  have c1 := (hb1.cell (p := ⟨w.heap.size, 1, none⟩) (by simp))
  have c2 := (hb1.cell (p := ⟨w.heap.size, 2, none⟩) (by simp))
  simp at c0 c1 c2
  have hs1 := hb1.size
  simp at hs1
  have bW : Below w.heap.size w w1 := ((Below.refl _ _).alloc (Nat.le_refl _) _).trans (hb1.mono (by simp))
  go_wp2_with (refine wpList_make_own _ rfl _ _ 22 rfl w.heap.size 5 i8 (.int .u8 0) 1 Tryd.underlying22 hi8 hz0 hz1 .i64 .i64 _ 15 rfl rfl ?h1 ?h2 ?h3 (by omega) ?_)
  case h1 => rfl
  case h2 => rw [hz2]; decide
  case h3 => simp only [maxLen]; decide
  intro w2 hown hg
  have hb2 : Below w1.heap.size w1 w2 := (Below.refl _ _).grown hg (Nat.le_refl _) (by simp)
  have d0 := (hb2.cell (p := ⟨w.heap.size, 0, none⟩) (by simp; omega)).trans c0
  have d1 := (hb2.cell (p := ⟨w.heap.size, 1, none⟩) (by simp; omega)).trans c1
  have d2 := (hb2.cell (p := ⟨w.heap.size, 2, none⟩) (by simp; omega)).trans c2
  clear hg
  have bW2 : Below w.heap.size w w2 := bW.trans (hb2.mono bW.size)
  go_wp2_with fail
  refine (FR.out _ _ _ [] _ rfl (by exact hown) bW2.size (by decide)).mono ?_
  rintro e w3 ⟨A3, n3, c3, rfl, hn3, ho3, hm3⟩
  have hb3 := hm3.below bW2 hown
  rw [List.nil_append] at hn3 ho3
  have hst := run_str 22 9 5 Tryd.underlying22 Tryd.underlying5 Tryd.underlying9 c3 hn3 (Rd.of_own ho3)
  clear hn3
  go_wp2
  go_ret
  exact ⟨rfl, hb3⟩

set_option maxRecDepth 100000 in
set_option maxHeartbeats 2000000 in
theorem nString_6 (hi lo : Nat) (p4 p6 : Addr) (w : World) (hz : ZF w p4 p6) (hh : hi < 18446744073709551616) (hlo : lo < 18446744073709551616) (hm : mapd hi lo = false) :
    Calls Tryd.prog 46 #[addrV hi lo (some p6)] w fun e w' => e = .returned (.string ⟨(long (wd hi lo)).toArray⟩) ∧ Below w.heap.size w w' := by
  have HM := Lib.hid hm
  obtain ⟨i8, hi8, hz0, hz1, hz2⟩ := info_parts info8
  have fr := fun (A : Option Addr) (nn c : Nat) (l : List UInt8) (w1 : World) => appTo6_any A nn c l hi lo p4 p6 w w1 hz
  have fv := fun (w1 : World) => isValid_any hi lo p6 p4 p6 w1
  have fi := fun (w1 : World) (hz1 : ZF w1 p4 p6) => is4in6_6 hi lo p4 p6 w1 hz1 hh hlo false HM.out
  clear hm
  unfold addrV at fr fv fi ⊢
  have FR := Lib.hid fr
  have FV := Lib.hid fv
  have FI := Lib.hid fi
  clear fr fv fi
  go_enter Tryd.func46, Tryd.ntmps46
  go_wp2_with fail
  refine (FV.out _ (hz.alloc _)).mono ?_
  rintro e w1 ⟨rfl, hb1⟩
  have z1 := (hz.alloc (.cells #[.int .u64 (hi : Int), .int .u64 (lo : Int), .pointer (some p6)] 60)).below hb1
  have g4 := z1.1.2.1
  have e4 := z1.eq64
  have c0 := (hb1.cell (p := ⟨w.heap.size, 0, none⟩) (by simp))
  have c1 := (hb1.cell (p := ⟨w.heap.size, 1, none⟩) (by simp))
  have c2 := (hb1.cell (p := ⟨w.heap.size, 2, none⟩) (by simp))
  simp at c0 c1 c2
  have hs1 := hb1.size
  simp at hs1
  have bW : Below w.heap.size w w1 := ((Below.refl _ _).alloc (Nat.le_refl _) _).trans (hb1.mono (by simp))
  go_wp2_with fail
  refine (FI.out _ z1).mono ?_
  rintro e w1' ⟨rfl, hb1'⟩
  have c0' := (hb1'.cell (p := ⟨w.heap.size, 0, none⟩) (by simp; omega)).trans c0
  have c1' := (hb1'.cell (p := ⟨w.heap.size, 1, none⟩) (by simp; omega)).trans c1
  have c2' := (hb1'.cell (p := ⟨w.heap.size, 2, none⟩) (by simp; omega)).trans c2
  have hs1' := hb1'.size
  have bW' : Below w.heap.size w w1' := bW.trans (hb1'.mono bW.size)
  go_wp2_with (refine wpList_make_own _ rfl _ _ 22 rfl w.heap.size 5 i8 (.int .u8 0) 1 Tryd.underlying22 hi8 hz0 hz1 .i64 .i64 _ 46 rfl rfl ?h1 ?h2 ?h3 (by omega) ?_)
  case h1 => rfl
  case h2 => rw [hz2]; decide
  case h3 => simp only [maxLen]; decide
  intro w2 hown hg
  have hb2 : Below w1'.heap.size w1' w2 := (Below.refl _ _).grown hg (Nat.le_refl _) (by simp)
  have d0 := (hb2.cell (p := ⟨w.heap.size, 0, none⟩) (by simp; omega)).trans c0'
  have d1 := (hb2.cell (p := ⟨w.heap.size, 1, none⟩) (by simp; omega)).trans c1'
  have d2 := (hb2.cell (p := ⟨w.heap.size, 2, none⟩) (by simp; omega)).trans c2'
  clear hg
  have bW2 : Below w.heap.size w w2 := bW'.trans (hb2.mono bW'.size)
  go_wp2_with fail
  refine (FR.out _ _ _ [] _ bW2 rfl (by exact hown) (by decide) hh hlo).mono ?_
  rintro e w3 ⟨A3, n3, c3, rfl, hn3, ho3, hm3⟩
  have hb3 := hm3.below bW2 hown
  rw [List.nil_append] at hn3 ho3
  have hst := run_str 22 9 5 Tryd.underlying22 Tryd.underlying5 Tryd.underlying9 c3 hn3 (Rd.of_own ho3)
  clear hn3
  go_wp2
  go_ret
  exact ⟨rfl, hb3⟩

theorem be_mp {xs : List UInt8} (h : xs.length = 16) (hm : xs.take 12 = mp) : be (xs.take 8) = 0 ∧ be (xs.drop 8) = lo4 (xs.drop 12) ∧ lo4 (xs.drop 12) < 18446744073709551616 ∧ mapd 0 (lo4 (xs.drop 12)) = true := by
  have e : xs = mp ++ xs.drop 12 := by rw [← hm, List.take_append_drop]
  have hl : (xs.drop 12).length = 4 := by simp [h]
  generalize xs.drop 12 = f at e hl ⊢
  subst e
  match f, hl with
  | [x0, x1, x2, x3], _ =>
    have b0 := x0.toNat_lt
    have b1 := x1.toNat_lt
    have b2 := x2.toNat_lt
    have b3 := x3.toNat_lt
    refine ⟨rfl, ?_, ?_, ?_⟩
    · simp [be, lo4, mp]; omega
    · simp [be, lo4]; omega
    · simp [be, lo4, mapd]; omega

set_option maxRecDepth 100000 in
set_option maxHeartbeats 1000000 in
theorem road_4 (Z : Option Addr) (cz : Nat) (xs : List UInt8) (p4 p6 : Addr) (w : World) (hz : ZF w p4 p6) (hx : xs.length = 4) (ha : Rd w Z xs) :
    Calls Tryd.prog 27 #[.slice Z 4 cz] w fun e w' => e = .returned (.tuple #[.string ⟨(ipText xs).toArray⟩, .bool true]) ∧ Below w.heap.size w w' := by
  have HX := Lib.hid hx
  have HI := Lib.hid (show ipText xs = dot4 xs by unfold ipText; rw [to4_four hx])
  have fs := fun (Z : Option Addr) (c : Nat) (w : World) (ha : Rd w Z xs) (hz : ZF w p4 p6) => fromSlice_4 Z c xs p4 p6 w HX.out ha hz
  have fu := fun (w : World) (hz : ZF w p4 p6) => unmap_4 0 (lo4 xs) p4 p6 w hz
  have fr := fun (w : World) (hz : ZF w p4 p6) => nString_4 xs p4 p6 w hz HX.out
  clear hx
  generalize lo4 xs = ll at fs fu fr
  unfold addrV at fs fu fr
  have FS := Lib.hid fs
  have FU := Lib.hid fu
  have FR := Lib.hid fr
  clear fs fu fr
  go_enter Tryd.func27, Tryd.ntmps27
  go_wp2_with fail
  refine (FS.out _ _ _ (by exact ha) hz).mono ?_
  rintro e w1 ⟨rfl, hb1⟩
  have b2 : Below w.heap.size w (w1.alloc (.cells #[.int .u64 0, .int .u64 (ll : Int), .pointer (some p4)] 60)) := hb1.alloc hb1.size _
  go_wp2_with fail
  refine (FU.out _ (hz.below b2)).mono ?_
  rintro e w2 ⟨rfl, hb2⟩
  have b3 := b2.trans (hb2.mono b2.size)
  go_wp2_with fail
  refine (FR.out _ (hz.below b3)).mono ?_
  rintro e w3 ⟨rfl, hb3⟩
  go_wp2
  go_ret2
  rw [HI.out]
  exact ⟨rfl, b3.trans (hb3.mono b3.size)⟩

set_option maxRecDepth 100000 in
set_option maxHeartbeats 1000000 in
theorem road_m (Z : Option Addr) (cz : Nat) (xs : List UInt8) (p4 p6 : Addr) (w : World) (hz : ZF w p4 p6) (hx : xs.length = 16) (ha : Rd w Z xs) (hmp : xs.take 12 = mp) :
    Calls Tryd.prog 27 #[.slice Z 16 cz] w fun e w' => e = .returned (.tuple #[.string ⟨(ipText xs).toArray⟩, .bool true]) ∧ Below w.heap.size w w' := by
  have HX := Lib.hid hx
  have HI := Lib.hid (show ipText xs = dot4 (xs.drop 12) by unfold ipText; rw [to4_mapped hx hmp])
  have h1 := be_mp hx hmp
  have fs := fun (Z : Option Addr) (c : Nat) (w : World) (ha : Rd w Z xs) (hz : ZF w p4 p6) => fromSlice_16 Z c xs p4 p6 w HX.out ha hz
  rw [h1.1, h1.2.1] at fs
  have fu := fun (w : World) (hz : ZF w p4 p6) => unmap_m 0 (lo4 (xs.drop 12)) p4 p6 w hz (by decide) h1.2.2.1 h1.2.2.2
  have fr := fun (w : World) (hz : ZF w p4 p6) => nString_4 (xs.drop 12) p4 p6 w hz (by simp [HX.out])
  clear hx hmp h1
  generalize lo4 (xs.drop 12) = ll at fs fu fr
  unfold addrV at fs fu fr
  have FS := Lib.hid fs
  have FU := Lib.hid fu
  have FR := Lib.hid fr
  clear fs fu fr
  go_enter Tryd.func27, Tryd.ntmps27
  go_wp2_with fail
  refine (FS.out _ _ _ (by exact ha) hz).mono ?_
  rintro e w1 ⟨rfl, hb1⟩
  have b2 : Below w.heap.size w (w1.alloc (.cells #[.int .u64 0, .int .u64 (ll : Int), .pointer (some p6)] 60)) := hb1.alloc hb1.size _
  go_wp2_with fail
  refine (FU.out _ (hz.below b2)).mono ?_
  rintro e w2 ⟨rfl, hb2⟩
  have b3 := b2.trans (hb2.mono b2.size)
  go_wp2_with fail
  refine (FR.out _ (hz.below b3)).mono ?_
  rintro e w3 ⟨rfl, hb3⟩
  go_wp2
  go_ret2
  rw [HI.out]
  exact ⟨rfl, b3.trans (hb3.mono b3.size)⟩

set_option maxRecDepth 100000 in
set_option maxHeartbeats 1000000 in
theorem road_n (Z : Option Addr) (cz : Nat) (xs : List UInt8) (p4 p6 : Addr) (w : World) (hz : ZF w p4 p6) (hx : xs.length = 16) (ha : Rd w Z xs) (hmp : xs.take 12 ≠ mp) :
    Calls Tryd.prog 27 #[.slice Z 16 cz] w fun e w' => e = .returned (.tuple #[.string ⟨(ipText xs).toArray⟩, .bool true]) ∧ Below w.heap.size w w' := by
  have HX := Lib.hid hx
  have HI := Lib.hid (show ipText xs = long (gr xs) by unfold ipText; rw [to4_six hx hmp])
  have L1 := be8_lt (xs.take 8) (by simp [hx])
  have L2 := be8_lt (xs.drop 8) (by simp [hx])
  have hmd := mapd_not hx hmp
  have fs := fun (Z : Option Addr) (c : Nat) (w : World) (ha : Rd w Z xs) (hz : ZF w p4 p6) => fromSlice_16 Z c xs p4 p6 w HX.out ha hz
  have fu := fun (w : World) (hz : ZF w p4 p6) => unmap_6 (be (xs.take 8)) (be (xs.drop 8)) p4 p6 w hz L1 L2 hmd
  have fr := fun (w : World) (hz : ZF w p4 p6) => nString_6 (be (xs.take 8)) (be (xs.drop 8)) p4 p6 w hz L1 L2 hmd
  have HG := Lib.hid (show gr xs = wd (be (xs.take 8)) (be (xs.drop 8)) from rfl)
  rw [← HG.out] at fr
  clear hx hmp hmd L1 L2 HG
  generalize be (xs.take 8) = hh at fs fu fr
  generalize be (xs.drop 8) = ll at fs fu fr
  unfold addrV at fs fu fr
  have FS := Lib.hid fs
  have FU := Lib.hid fu
  have FR := Lib.hid fr
  clear fs fu fr
  go_enter Tryd.func27, Tryd.ntmps27
  go_wp2_with fail
  refine (FS.out _ _ _ (by exact ha) hz).mono ?_
  rintro e w1 ⟨rfl, hb1⟩
  have b2 : Below w.heap.size w (w1.alloc (.cells #[.int .u64 (hh : Int), .int .u64 (ll : Int), .pointer (some p6)] 60)) := hb1.alloc hb1.size _
  go_wp2_with fail
  refine (FU.out _ (hz.below b2)).mono ?_
  rintro e w2 ⟨rfl, hb2⟩
  have b3 := b2.trans (hb2.mono b2.size)
  go_wp2_with fail
  refine (FR.out _ (hz.below b3)).mono ?_
  rintro e w3 ⟨rfl, hb3⟩
  go_wp2
  go_ret2
  rw [HI.out]
  exact ⟨rfl, b3.trans (hb3.mono b3.size)⟩

theorem roadString_any (Z : Option Addr) (n cz : Nat) (xs : List UInt8) (p4 p6 : Addr) (w : World) (hz : ZF w p4 p6) (hx : xs.length = n) (hv : n = 4 ∨ n = 16) (ha : Rd w Z xs) :
    Calls Tryd.prog 27 #[.slice Z n cz] w fun e w' => e = .returned (.tuple #[.string ⟨(ipText xs).toArray⟩, .bool true]) ∧ Below w.heap.size w w' := by
  rcases hv with rfl | rfl
  · exact road_4 Z cz xs p4 p6 w hz hx ha
  · by_cases hm : xs.take 12 = mp
    · exact road_m Z cz xs p4 p6 w hz hx ha hm
    · exact road_n Z cz xs p4 p6 w hz hx ha hm
end Go.Proofs.YtjepkkfpgmgnjaaDoor
