/-
  Contracts of (net.IP).appendTo, (net.IP).String and impl.String for 4 or 16 bytes. No condition.
-/
import Derived.Test.YtjepkkfpgmgnjaaDoorAppendTo
import Derived.Test.YtjepkkfpgmgnjaaDoorTo4
namespace Go.Proofs.YtjepkkfpgmgnjaaDoor
open Go.RowKit
set_option linter.unusedVariables false

/-- the groups of 16 bytes -/
def gr (xs : List UInt8) : Nat → Nat := wd (be (xs.take 8)) (be (xs.drop 8))
/-- the text of 4 or 16 bytes -/
def ipText (xs : List UInt8) : List UInt8 := match to4 xs with
  | some f => dot4 f
  | none => long (gr xs)
theorem be8_lt (xs : List UInt8) (h : xs.length = 8) : be xs < 18446744073709551616 := by
  match xs, h with
  | [x0, x1, x2, x3, x4, x5, x6, x7], _ =>
    have b0 := x0.toNat_lt
    have b1 := x1.toNat_lt
    have b2 := x2.toNat_lt
    have b3 := x3.toNat_lt
    have b4 := x4.toNat_lt
    have b5 := x5.toNat_lt
    have b6 := x6.toNat_lt
    have b7 := x7.toNat_lt
    simp only [be, List.foldl]; omega
theorem mapd_not {xs : List UInt8} (h : xs.length = 16) (hm : xs.take 12 ≠ mp) : mapd (be (xs.take 8)) (be (xs.drop 8)) = false := by
  match xs, h with
  | [x0, x1, x2, x3, x4, x5, x6, x7, x8, x9, x10, x11, x12, x13, x14, x15], _ =>
    have b0 := x0.toNat_lt
    have b1 := x1.toNat_lt
    have b2 := x2.toNat_lt
    have b3 := x3.toNat_lt
    have b4 := x4.toNat_lt
    have b5 := x5.toNat_lt
    have b6 := x6.toNat_lt
    have b7 := x7.toNat_lt
    have b8 := x8.toNat_lt
    have b9 := x9.toNat_lt
    have b10 := x10.toNat_lt
    have b11 := x11.toNat_lt
    have b12 := x12.toNat_lt
    have b13 := x13.toNat_lt
    have b14 := x14.toNat_lt
    have b15 := x15.toNat_lt
    rcases hc : mapd (be (List.take 8 [x0, x1, x2, x3, x4, x5, x6, x7, x8, x9, x10, x11, x12, x13, x14, x15])) (be (List.drop 8 [x0, x1, x2, x3, x4, x5, x6, x7, x8, x9, x10, x11, x12, x13, x14, x15])) with _ | _
    · rfl
    · exfalso
      simp only [mapd, Bool.and_eq_true, decide_eq_true_eq] at hc
      obtain ⟨h1, h2⟩ := hc
      simp only [be, List.take_succ_cons, List.take_zero, List.drop_succ_cons, List.drop_zero, List.foldl] at h1 h2
      apply hm
      have z : ∀ (x : UInt8) (n : Nat), x.toNat = n → x = UInt8.ofNat n := fun x n e => by rw [← e]; simp
      rw [z x0 0 (by omega), z x1 0 (by omega), z x2 0 (by omega), z x3 0 (by omega), z x4 0 (by omega), z x5 0 (by omega), z x6 0 (by omega), z x7 0 (by omega), z x8 0 (by omega), z x9 0 (by omega), z x10 255 (by omega), z x11 255 (by omega)]
      rfl

set_option maxRecDepth 100000 in
set_option maxHeartbeats 2000000 in
theorem ipAppend_4 (Z A : Option Addr) (cz nn c : Nat) (l xs : List UInt8) (p4 p6 : Addr) (w0 w : World) (hz : ZF w0 p4 p6) (hb0 : Below w0.heap.size w0 w) (hx : xs.length = 4) (hcz : 4 ≤ cz) (ha : Rd w Z xs) (hnn : l.length = nn) (ho : w.ownsRow w0.heap.size 5 1 (.slice A nn c) l.length (cb l)) (hl : nn ≤ 50000) :
    Calls Tryd.prog 72 #[.slice Z 4 cz, .slice A nn c] w fun e w' => AppTo w0.heap.size w (.slice A nn c) (l ++ ipText xs) e w' := by
  have HN := Lib.hid hnn
  have HX := Lib.hid hx
  have HT := Lib.hid (to4_four hx)
  have hbase := hb0.size
  have HI := Lib.hid (show ipText xs = dot4 xs by unfold ipText; rw [to4_four hx])
  have fa := fun (w1 : World) (hb1 : Below w0.heap.size w0 w1) (ho1 : w1.ownsRow w0.heap.size 5 1 (.slice A nn c) l.length (cb l)) => appendTo_4 A nn c l xs p4 p6 w0 w1 hz hb1 HX.out HN.out ho1 hl
  have fs := fun (Z : Option Addr) (c : Nat) (w : World) (ha : Rd w Z xs) (hz : ZF w p4 p6) => fromSlice_4 Z c xs p4 p6 w HX.out ha hz
  generalize lo4 xs = ll at fa fs
  unfold addrV at fa fs
  have FA := Lib.hid fa
  have FS := Lib.hid fs
  clear fa fs
  clear hnn hx
  go_enter Tryd.func72, Tryd.ntmps72
  go_wp2_with fail
  refine (netTo4_any _ _ _ xs _ HX.out hcz (by exact ha)).mono ?_
  rintro e w1 ⟨A1, n1, c1, rfl, hn1, hc1, hr1, hi1, rfl⟩
  rw [HT.out] at hn1 hr1 hi1
  obtain rfl : n1 = 4 := by rw [← hn1]; exact HX.out
  clear hn1
  clear hi1
  go_wp2_with fail
  refine (FS.out _ _ _ (by exact hr1) (hz.below hb0)).mono ?_
  rintro e w2 ⟨rfl, hb2⟩
  have bW : Below w.heap.size w (w2.alloc (.cells #[.int .u64 0, .int .u64 (ll : Int), .pointer (some p4)] 60)) := hb2.alloc hb2.size _
  go_wp2_with fail
  refine (FA.out _ (hb0.trans (bW.mono hbase)) (own_kept ho bW)).mono ?_
  rintro e w3 ⟨A3, n3, c3, rfl, hn3, ho3, hm3⟩
  have HN3 := Lib.hid hn3
  clear hn3
  go_wp2
  go_ret
  rw [HI.out]
  exact ⟨A3, n3, c3, rfl, HN3.out, ho3, (Moved.of_below _ bW).trans hm3⟩

set_option maxRecDepth 100000 in
set_option maxHeartbeats 2000000 in
theorem ipAppend_16m (Z A : Option Addr) (cz nn c : Nat) (l xs : List UInt8) (p4 p6 : Addr) (w0 w : World) (hz : ZF w0 p4 p6) (hb0 : Below w0.heap.size w0 w) (hx : xs.length = 16) (hcz : 16 ≤ cz) (ha : Rd w Z xs) (hmp : xs.take 12 = mp) (hnn : l.length = nn) (ho : w.ownsRow w0.heap.size 5 1 (.slice A nn c) l.length (cb l)) (hl : nn ≤ 50000) :
    Calls Tryd.prog 72 #[.slice Z 16 cz, .slice A nn c] w fun e w' => AppTo w0.heap.size w (.slice A nn c) (l ++ ipText xs) e w' := by
  have HN := Lib.hid hnn
  have HX := Lib.hid hx
  have HT := Lib.hid (to4_mapped hx hmp)
  have HF := Lib.hid (show (xs.drop 12).length = 4 by simp [hx])
  have hbase := hb0.size
  have HI := Lib.hid (show ipText xs = dot4 (xs.drop 12) by unfold ipText; rw [to4_mapped hx hmp])
  have fa := fun (w1 : World) (hb1 : Below w0.heap.size w0 w1) (ho1 : w1.ownsRow w0.heap.size 5 1 (.slice A nn c) l.length (cb l)) => appendTo_4 A nn c l (xs.drop 12) p4 p6 w0 w1 hz hb1 HF.out HN.out ho1 hl
  have fs := fun (Z : Option Addr) (c : Nat) (w : World) (ha : Rd w Z (xs.drop 12)) (hz : ZF w p4 p6) => fromSlice_4 Z c (xs.drop 12) p4 p6 w HF.out ha hz
  generalize lo4 (xs.drop 12) = ll at fa fs
  unfold addrV at fa fs
  have FA := Lib.hid fa
  have FS := Lib.hid fs
  clear fa fs
  clear hnn hx hmp
  go_enter Tryd.func72, Tryd.ntmps72
  go_wp2_with fail
  refine (netTo4_any _ _ _ xs _ HX.out hcz (by exact ha)).mono ?_
  rintro e w1 ⟨A1, n1, c1, rfl, hn1, hc1, hr1, hi1, rfl⟩
  rw [HT.out] at hn1 hr1 hi1
  obtain rfl : n1 = 4 := by rw [← hn1]; exact HF.out
  clear hn1
  clear hi1
  go_wp2_with fail
  refine (FS.out _ _ _ (by exact hr1) (hz.below hb0)).mono ?_
  rintro e w2 ⟨rfl, hb2⟩
  have bW : Below w.heap.size w (w2.alloc (.cells #[.int .u64 0, .int .u64 (ll : Int), .pointer (some p4)] 60)) := hb2.alloc hb2.size _
  go_wp2_with fail
  refine (FA.out _ (hb0.trans (bW.mono hbase)) (own_kept ho bW)).mono ?_
  rintro e w3 ⟨A3, n3, c3, rfl, hn3, ho3, hm3⟩
  have HN3 := Lib.hid hn3
  clear hn3
  go_wp2
  go_ret
  rw [HI.out]
  exact ⟨A3, n3, c3, rfl, HN3.out, ho3, (Moved.of_below _ bW).trans hm3⟩

set_option maxRecDepth 100000 in
set_option maxHeartbeats 2000000 in
theorem ipAppend_16n (Z A : Option Addr) (cz nn c : Nat) (l xs : List UInt8) (p4 p6 : Addr) (w0 w : World) (hz : ZF w0 p4 p6) (hb0 : Below w0.heap.size w0 w) (hx : xs.length = 16) (hcz : 16 ≤ cz) (ha : Rd w Z xs) (hmp : xs.take 12 ≠ mp) (hnn : l.length = nn) (ho : w.ownsRow w0.heap.size 5 1 (.slice A nn c) l.length (cb l)) (hl : nn ≤ 50000) :
    Calls Tryd.prog 72 #[.slice Z 16 cz, .slice A nn c] w fun e w' => AppTo w0.heap.size w (.slice A nn c) (l ++ ipText xs) e w' := by
  have HN := Lib.hid hnn
  have HX := Lib.hid hx
  have HT := Lib.hid (to4_six hx hmp)
  have hbase := hb0.size
  have HI := Lib.hid (show ipText xs = long (gr xs) by unfold ipText; rw [to4_six hx hmp])
  have L1 := be8_lt (xs.take 8) (by simp [hx])
  have L2 := be8_lt (xs.drop 8) (by simp [hx])
  have fa := fun (w1 : World) (hb1 : Below w0.heap.size w0 w1) (ho1 : w1.ownsRow w0.heap.size 5 1 (.slice A nn c) l.length (cb l)) => appendTo_6 A nn c l (be (xs.take 8)) (be (xs.drop 8)) p4 p6 w0 w1 hz hb1 HN.out ho1 hl L1 L2 (mapd_not hx hmp)
  have fs := fun (Z : Option Addr) (c : Nat) (w : World) (ha : Rd w Z xs) (hz : ZF w p4 p6) => fromSlice_16 Z c xs p4 p6 w HX.out ha hz
  have HG := Lib.hid (show gr xs = wd (be (xs.take 8)) (be (xs.drop 8)) from rfl)
  generalize be (xs.take 8) = hh at fa fs HG L1
  generalize be (xs.drop 8) = ll at fa fs HG L2
  rw [← HG.out] at fa
  unfold addrV at fa fs
  have FA := Lib.hid fa
  have FS := Lib.hid fs
  clear fa fs L1 L2 HG
  clear hnn hx hmp
  go_enter Tryd.func72, Tryd.ntmps72
  go_wp2_with fail
  refine (netTo4_any _ _ _ xs _ HX.out hcz (by exact ha)).mono ?_
  rintro e w1 ⟨A1, n1, c1, rfl, hn1, hc1, hr1, hi1, rfl⟩
  rw [HT.out] at hn1 hr1 hi1
  obtain rfl : n1 = 0 := hn1.symm
  clear hn1
  clear hi1
  go_wp2_with fail
  refine (FS.out _ _ _ (by exact ha) (hz.below hb0)).mono ?_
  rintro e w2 ⟨rfl, hb2⟩
  have bW : Below w.heap.size w (w2.alloc (.cells #[.int .u64 (hh : Int), .int .u64 (ll : Int), .pointer (some p6)] 60)) := hb2.alloc hb2.size _
  go_wp2_with fail
  refine (FA.out _ (hb0.trans (bW.mono hbase)) (own_kept ho bW)).mono ?_
  rintro e w3 ⟨A3, n3, c3, rfl, hn3, ho3, hm3⟩
  have HN3 := Lib.hid hn3
  clear hn3
  go_wp2
  go_ret
  rw [HI.out]
  exact ⟨A3, n3, c3, rfl, HN3.out, ho3, (Moved.of_below _ bW).trans hm3⟩

theorem ipAppend_any (Z A : Option Addr) (n cz nn c : Nat) (l xs : List UInt8) (p4 p6 : Addr) (w0 w : World) (hz : ZF w0 p4 p6) (hb0 : Below w0.heap.size w0 w) (hx : xs.length = n) (hv : n = 4 ∨ n = 16) (hcz : n ≤ cz) (ha : Rd w Z xs) (hnn : l.length = nn) (ho : w.ownsRow w0.heap.size 5 1 (.slice A nn c) l.length (cb l)) (hl : nn ≤ 50000) :
    Calls Tryd.prog 72 #[.slice Z n cz, .slice A nn c] w fun e w' => AppTo w0.heap.size w (.slice A nn c) (l ++ ipText xs) e w' := by
  rcases hv with rfl | rfl
  · exact ipAppend_4 Z A cz nn c l xs p4 p6 w0 w hz hb0 hx hcz ha hnn ho hl
  · by_cases hm : xs.take 12 = mp
    · exact ipAppend_16m Z A cz nn c l xs p4 p6 w0 w hz hb0 hx hcz ha hm hnn ho hl
    · exact ipAppend_16n Z A cz nn c l xs p4 p6 w0 w hz hb0 hx hcz ha hm hnn ho hl

set_option maxRecDepth 100000 in
set_option maxHeartbeats 1000000 in
theorem ipString_4 (Z : Option Addr) (cz : Nat) (xs : List UInt8) (p4 p6 : Addr) (w : World) (hz : ZF w p4 p6) (hx : xs.length = 4) (hcz : 4 ≤ cz) (ha : Rd w Z xs) :
    Calls Tryd.prog 44 #[.slice Z 4 cz] w fun e w' => e = .returned (.string ⟨(ipText xs).toArray⟩) ∧ Below w.heap.size w w' := by
  have HX := Lib.hid hx
  clear hx
  obtain ⟨i8, hi8, hz0, hz1, hz2⟩ := info_parts info8
  go_enter Tryd.func44, Tryd.ntmps44
  go_wp2_with (refine wpList_make_own _ rfl _ _ 22 rfl w.heap.size 5 i8 (.int .u8 0) 1 Tryd.underlying22 hi8 hz0 hz1 .i64 .i64 _ 15 rfl rfl ?h1 ?h2 ?h3 (Nat.le_refl _) ?_)
  case h1 => rfl
  case h2 => rw [hz2]; decide
  case h3 => simp only [maxLen]; decide
  intro w1 hown hg
  have hb1 : Below w.heap.size w w1 := (Below.refl _ _).grown hg (Nat.le_refl _) (by simp)
  clear hg
  go_wp2_with fail
  refine (ipAppend_any _ _ _ _ 0 _ [] xs p4 p6 w _ hz hb1 HX.out (by decide) hcz (by exact ha.below hb1) rfl (by exact hown) (by decide)).mono ?_
  rintro e w2 ⟨A2, n2, c2, rfl, hn2, ho2, hm2⟩
  have hb2 := hm2.below hb1 hown
  rw [List.nil_append] at hn2 ho2
  have hst := run_str 22 9 5 Tryd.underlying22 Tryd.underlying5 Tryd.underlying9 c2 hn2 (Rd.of_own ho2)
  clear hn2
  go_wp2
  go_ret
  exact ⟨rfl, hb2⟩

set_option maxRecDepth 100000 in
set_option maxHeartbeats 1000000 in
theorem ipString_16 (Z : Option Addr) (cz : Nat) (xs : List UInt8) (p4 p6 : Addr) (w : World) (hz : ZF w p4 p6) (hx : xs.length = 16) (hcz : 16 ≤ cz) (ha : Rd w Z xs) :
    Calls Tryd.prog 44 #[.slice Z 16 cz] w fun e w' => e = .returned (.string ⟨(ipText xs).toArray⟩) ∧ Below w.heap.size w w' := by
  have HX := Lib.hid hx
  clear hx
  obtain ⟨i8, hi8, hz0, hz1, hz2⟩ := info_parts info8
  go_enter Tryd.func44, Tryd.ntmps44
  go_wp2_with (refine wpList_make_own _ rfl _ _ 22 rfl w.heap.size 5 i8 (.int .u8 0) 1 Tryd.underlying22 hi8 hz0 hz1 .i64 .i64 _ 39 rfl rfl ?h1 ?h2 ?h3 (Nat.le_refl _) ?_)
  case h1 => rfl
  case h2 => rw [hz2]; decide
  case h3 => simp only [maxLen]; decide
  intro w1 hown hg
  have hb1 : Below w.heap.size w w1 := (Below.refl _ _).grown hg (Nat.le_refl _) (by simp)
  clear hg
  go_wp2_with fail
  refine (ipAppend_any _ _ _ _ 0 _ [] xs p4 p6 w _ hz hb1 HX.out (by decide) hcz (by exact ha.below hb1) rfl (by exact hown) (by decide)).mono ?_
  rintro e w2 ⟨A2, n2, c2, rfl, hn2, ho2, hm2⟩
  have hb2 := hm2.below hb1 hown
  rw [List.nil_append] at hn2 ho2
  have hst := run_str 22 9 5 Tryd.underlying22 Tryd.underlying5 Tryd.underlying9 c2 hn2 (Rd.of_own ho2)
  clear hn2
  go_wp2
  go_ret
  exact ⟨rfl, hb2⟩

theorem implString_any (Z : Option Addr) (n cz : Nat) (xs : List UInt8) (p4 p6 : Addr) (w : World) (hz : ZF w p4 p6) (hx : xs.length = n) (hv : n = 4 ∨ n = 16) (ha : Rd w Z xs) :
    Calls Tryd.prog 25 #[.slice Z n cz] w fun e w' => e = .returned (.string ⟨(ipText xs).toArray⟩) ∧ Below w.heap.size w w' := by
  have HX := Lib.hid hx
  clear hx
  rcases hv with rfl | rfl
  all_goals
    go_enter Tryd.func25, Tryd.ntmps25
    go_wp2_with fail
    refine (plain_any _ _ _ xs _ HX.out (by exact ha) (by decide)).mono ?_
    rintro e w1 ⟨A1, n1, c1, rfl, hn1, hown1, hb1⟩
    obtain rfl := HX.out.symm.trans hn1
    clear hn1
    go_wp2_with fail
    first
      | refine (ipString_4 _ _ xs p4 p6 _ (hz.below hb1) HX.out (own_cap hown1) (by exact Rd.of_own hown1)).mono ?_
      | refine (ipString_16 _ _ xs p4 p6 _ (hz.below hb1) HX.out (own_cap hown1) (by exact Rd.of_own hown1)).mono ?_
    rintro e w2 ⟨rfl, hb2⟩
    go_wp2
    go_ret
    exact ⟨rfl, hb1.trans (hb2.mono hb1.size)⟩
end Go.Proofs.YtjepkkfpgmgnjaaDoor
