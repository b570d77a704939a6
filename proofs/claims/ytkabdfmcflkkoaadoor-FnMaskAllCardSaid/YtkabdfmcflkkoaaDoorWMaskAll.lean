/-
  The walk of the statement FnMaskAll: it returns true and changes nothing that was there.
-/
import Derived.Test.YtkabdfmcflkkoaaDoorMask
import Derived.Test.YtkabdfmcflkkoaaDoorOnes
import Derived.Test.YtkabdfmcflkkoaaDoorSpecTo4
namespace Go.Proofs.YtkabdfmcflkkoaaDoor
open Go.RowKit
set_option linter.unusedVariables false

theorem ff_cidr : cidr 12 96 = ff12 := by decide +kernel
theorem and_len {xs ms : List UInt8} {l : Nat} (h1 : xs.length = l) (h2 : ms.length = l) : (andL xs ms).length = l := by rw [andL_length xs ms (by omega), h1]

set_option maxHeartbeats 1000000 in
theorem FnMaskAll_s4 (A M : Option Addr) (c d : Nat) (x m : List UInt8) (w : World) (hv : V4 w) (hx : x.length = 4) (hms : m.length = 4) (hcx : 4 ≤ c) (hdx : 4 ≤ d) (ha : Rd w A x) (hm : Rd w M m) :
    Calls Tryd.prog 4 #[.slice A 4 c, .slice M 4 d] w fun e w' => e = .returned (.bool true) ∧ Below w.heap.size w w' := by
  have HX := Lib.hid hx
  have HM := Lib.hid hms
  have HT := Lib.hid (maskL_same (hx.trans hms.symm))
  have TI := Lib.hid (to4_four hx)
  have LR := Lib.hid (and_len hx hms)
  clear hx hms
  go_enter Tryd.func4, Tryd.ntmps4
  go_wp2_with fail
  refine (implMask_any _ _ _ _ _ _ x m _ (by exact hv) HX.out HM.out (by exact ha) (by exact hm) (by omega) (by omega)).mono ?_
  rintro e w1 ⟨A1, n1, c1, rfl, hn1, hown1, hb1⟩
  rw [HT.out] at hn1 hown1 ⊢
  obtain rfl : n1 = 4 := by rw [← hn1]; exact LR.out
  clear hn1
  go_wp2
  go_quiet (fail)
  have TB2 := below_drewN hb1 nq
  go_wp2_with fail
  refine (specTo4_any _ _ _ x _ HX.out hcx (by exact ((ha).below hb1).drewN _)).mono ?_
  rintro e w2 ⟨A2, n2, c2, rfl, hn2, hown2, hb2⟩
  rw [TI.out] at hn2 hown2 ⊢
  obtain rfl : n2 = 4 := by rw [← hn2]; exact HX.out
  clear hn2
  have TB3 := (TB2).trans ((hb2).mono (TB2).size)
  go_wp2_with fail
  refine (specAnd_any _ _ _ _ _ _ (x) (m) _ HX.out HM.out (Nat.le_refl _) (by exact Rd.of_own (xs := x) hown2) (by exact (((hm).below hb1).drewN _).below hb2) (by omega)).mono ?_
  rintro e w3 ⟨A3, n3, c3, rfl, hn3, hown3, hb3⟩
  obtain rfl : n3 = 4 := by rw [← hn3]; exact LR.out
  clear hn3
  have TB4 := (TB3).trans ((hb3).mono (TB3).size)
  go_wp2_with fail
  refine (same_any _ _ _ _ _ _ (andL x m) (andL x m) _ LR.out LR.out (by exact (((Rd.of_own (xs := andL x m) hown1).drewN _).below hb2).below hb3) (by exact Rd.of_own (xs := andL x m) hown3) (by omega) true (eqb_true rfl)).mono ?_
  rintro e w4 ⟨rfl, k4, rfl⟩
  have TB5 := below_drewN TB4 k4
  go_wp2
  go_ret
  exact ⟨rfl, TB5⟩

set_option maxHeartbeats 1000000 in
theorem FnMaskAll_s16m (A M : Option Addr) (c d : Nat) (x m : List UInt8) (w : World) (hv : V4 w) (hx : x.length = 16) (hms : m.length = 16) (hcx : 16 ≤ c) (hdx : 16 ≤ d) (ha : Rd w A x) (hm : Rd w M m) (hmi : x.take 12 = mp) :
    Calls Tryd.prog 4 #[.slice A 16 c, .slice M 16 d] w fun e w' => e = .returned (.bool true) ∧ Below w.heap.size w w' := by
  have HX := Lib.hid hx
  have HM := Lib.hid hms
  have HT := Lib.hid (maskL_same (hx.trans hms.symm))
  have TI := Lib.hid (to4_mapped hx hmi)
  have LR := Lib.hid (and_len hx hms)
  clear hx hms hmi
  go_enter Tryd.func4, Tryd.ntmps4
  go_wp2_with fail
  refine (implMask_any _ _ _ _ _ _ x m _ (by exact hv) HX.out HM.out (by exact ha) (by exact hm) (by omega) (by omega)).mono ?_
  rintro e w1 ⟨A1, n1, c1, rfl, hn1, hown1, hb1⟩
  rw [HT.out] at hn1 hown1 ⊢
  obtain rfl : n1 = 16 := by rw [← hn1]; exact LR.out
  clear hn1
  go_wp2
  go_quiet (fail)
  have TB2 := below_drewN hb1 nq
  go_wp2_with fail
  refine (specTo4_any _ _ _ x _ HX.out hcx (by exact ((ha).below hb1).drewN _)).mono ?_
  rintro e w2 ⟨A2, n2, c2, rfl, hn2, hown2, hb2⟩
  rw [TI.out]
  clear hn2 hown2
  have TB3 := (TB2).trans ((hb2).mono (TB2).size)
  go_wp2_with fail
  refine (specAnd_any _ _ _ _ _ _ (x) (m) _ HX.out HM.out (Nat.le_refl _) (by exact (((ha).below hb1).drewN _).below hb2) (by exact (((hm).below hb1).drewN _).below hb2) (by omega)).mono ?_
  rintro e w3 ⟨A3, n3, c3, rfl, hn3, hown3, hb3⟩
  obtain rfl : n3 = 16 := by rw [← hn3]; exact LR.out
  clear hn3
  have TB4 := (TB3).trans ((hb3).mono (TB3).size)
  go_wp2_with fail
  refine (same_any _ _ _ _ _ _ (andL x m) (andL x m) _ LR.out LR.out (by exact (((Rd.of_own (xs := andL x m) hown1).drewN _).below hb2).below hb3) (by exact Rd.of_own (xs := andL x m) hown3) (by omega) true (eqb_true rfl)).mono ?_
  rintro e w4 ⟨rfl, k4, rfl⟩
  have TB5 := below_drewN TB4 k4
  go_wp2
  go_ret
  exact ⟨rfl, TB5⟩

set_option maxHeartbeats 1000000 in
theorem FnMaskAll_s16n (A M : Option Addr) (c d : Nat) (x m : List UInt8) (w : World) (hv : V4 w) (hx : x.length = 16) (hms : m.length = 16) (hcx : 16 ≤ c) (hdx : 16 ≤ d) (ha : Rd w A x) (hm : Rd w M m) (hmi : x.take 12 ≠ mp) :
    Calls Tryd.prog 4 #[.slice A 16 c, .slice M 16 d] w fun e w' => e = .returned (.bool true) ∧ Below w.heap.size w w' := by
  have HX := Lib.hid hx
  have HM := Lib.hid hms
  have HT := Lib.hid (maskL_same (hx.trans hms.symm))
  have TI := Lib.hid (to4_six hx hmi)
  have LR := Lib.hid (and_len hx hms)
  clear hx hms hmi
  go_enter Tryd.func4, Tryd.ntmps4
  go_wp2_with fail
  refine (implMask_any _ _ _ _ _ _ x m _ (by exact hv) HX.out HM.out (by exact ha) (by exact hm) (by omega) (by omega)).mono ?_
  rintro e w1 ⟨A1, n1, c1, rfl, hn1, hown1, hb1⟩
  rw [HT.out] at hn1 hown1 ⊢
  obtain rfl : n1 = 16 := by rw [← hn1]; exact LR.out
  clear hn1
  go_wp2
  go_quiet (fail)
  have TB2 := below_drewN hb1 nq
  go_wp2_with fail
  refine (specTo4_any _ _ _ x _ HX.out hcx (by exact ((ha).below hb1).drewN _)).mono ?_
  rintro e w2 ⟨A2, n2, c2, rfl, hn2, hown2, hb2⟩
  rw [TI.out]
  clear hn2 hown2
  have TB3 := (TB2).trans ((hb2).mono (TB2).size)
  go_wp2_with fail
  refine (specAnd_any _ _ _ _ _ _ (x) (m) _ HX.out HM.out (Nat.le_refl _) (by exact (((ha).below hb1).drewN _).below hb2) (by exact (((hm).below hb1).drewN _).below hb2) (by omega)).mono ?_
  rintro e w3 ⟨A3, n3, c3, rfl, hn3, hown3, hb3⟩
  obtain rfl : n3 = 16 := by rw [← hn3]; exact LR.out
  clear hn3
  have TB4 := (TB3).trans ((hb3).mono (TB3).size)
  go_wp2_with fail
  refine (same_any _ _ _ _ _ _ (andL x m) (andL x m) _ LR.out LR.out (by exact (((Rd.of_own (xs := andL x m) hown1).drewN _).below hb2).below hb3) (by exact Rd.of_own (xs := andL x m) hown3) (by omega) true (eqb_true rfl)).mono ?_
  rintro e w4 ⟨rfl, k4, rfl⟩
  have TB5 := below_drewN TB4 k4
  go_wp2
  go_ret
  exact ⟨rfl, TB5⟩

set_option maxHeartbeats 1000000 in
theorem FnMaskAll_sn (A M : Option Addr) (n c d : Nat) (x m : List UInt8) (w : World) (hv : V4 w) (hx : x.length = n) (hms : m.length = n) (hcx : n ≤ c) (hdx : n ≤ d) (ha : Rd w A x) (hm : Rd w M m) (h4 : n ≠ 4) (h16 : n ≠ 16) (hs : n ≤ 140737488351232) :
    Calls Tryd.prog 4 #[.slice A n c, .slice M n d] w fun e w' => e = .returned (.bool true) ∧ Below w.heap.size w w' := by
  have HX := Lib.hid hx
  have HM := Lib.hid hms
  have HT := Lib.hid (maskL_same (hx.trans hms.symm))
  have TI := Lib.hid (to4_other (xs := x) (by omega) (by omega))
  have LR := Lib.hid (and_len hx hms)
  have t1 : ((n : Int) == 16) = false := by simp; omega
  have t2 : ((n : Int) == 4) = false := by simp; omega
  clear hx hms h4 h16
  go_enter Tryd.func4, Tryd.ntmps4
  go_wp2_with fail
  refine (implMask_any _ _ _ _ _ _ x m _ (by exact hv) HX.out HM.out (by exact ha) (by exact hm) (by omega) (by omega)).mono ?_
  rintro e w1 ⟨A1, n1, c1, rfl, hn1, hown1, hb1⟩
  rw [HT.out] at hn1 hown1 ⊢
  obtain rfl : n = n1 := by rw [← hn1]; exact (LR.out).symm
  clear hn1
  go_wp2
  go_quiet (fail)
  have TB2 := below_drewN hb1 nq
  go_wp2_with fail
  refine (specTo4_any _ _ _ x _ HX.out hcx (by exact ((ha).below hb1).drewN _)).mono ?_
  rintro e w2 ⟨A2, n2, c2, rfl, hn2, hown2, hb2⟩
  rw [TI.out]
  clear hn2 hown2
  have TB3 := (TB2).trans ((hb2).mono (TB2).size)
  go_wp2_with fail
  refine (specAnd_any _ _ _ _ _ _ (x) (m) _ HX.out HM.out (Nat.le_refl _) (by exact (((ha).below hb1).drewN _).below hb2) (by exact (((hm).below hb1).drewN _).below hb2) (by omega)).mono ?_
  rintro e w3 ⟨A3, n3, c3, rfl, hn3, hown3, hb3⟩
  obtain rfl : n = n3 := by rw [← hn3]; exact (LR.out).symm
  clear hn3
  have TB4 := (TB3).trans ((hb3).mono (TB3).size)
  go_wp2_with fail
  refine (same_any _ _ _ _ _ _ (andL x m) (andL x m) _ LR.out LR.out (by exact (((Rd.of_own (xs := andL x m) hown1).drewN _).below hb2).below hb3) (by exact Rd.of_own (xs := andL x m) hown3) (by omega) true (eqb_true rfl)).mono ?_
  rintro e w4 ⟨rfl, k4, rfl⟩
  have TB5 := below_drewN TB4 k4
  go_wp2
  go_ret
  exact ⟨rfl, TB5⟩

set_option maxHeartbeats 1000000 in
theorem FnMaskAll_46y (A M : Option Addr) (c d : Nat) (x m : List UInt8) (w : World) (hv : V4 w) (hx : x.length = 4) (hms : m.length = 16) (hcx : 4 ≤ c) (hdx : 16 ≤ d) (ha : Rd w A x) (hm : Rd w M m) (hf : m.take 12 = ff12) :
    Calls Tryd.prog 4 #[.slice A 4 c, .slice M 16 d] w fun e w' => e = .returned (.bool true) ∧ Below w.heap.size w w' := by
  have HX := Lib.hid hx
  have HM := Lib.hid hms
  have HT := Lib.hid (maskL_46 hx hms hf)
  have TI := Lib.hid (to4_four hx)
  have H12 := Lib.hid (show (m.take 12).length = 12 by simp [hms])
  obtain ⟨mb, mo, rfl, _⟩ := hm.at_ (k := 0) (by omega)
  have hc1 : (12 : Int) ≤ (d : Int) := by omega
  have hc2 : (16 : Int) ≤ (d : Int) := by omega
  have HF := Lib.hid (show eqb (m.take 12) (cidr 12 96) = true by rw [ff_cidr]; exact eqb_true hf)
  have HD := Lib.hid (show (m.drop 12).length = 4 by simp [hms])
  have LR := Lib.hid (and_len hx (show (m.drop 12).length = 4 by simp [hms]))
  clear hx hms hf
  go_enter Tryd.func4, Tryd.ntmps4
  go_wp2_with fail
  refine (implMask_any _ _ _ _ _ _ x m _ (by exact hv) HX.out HM.out (by exact ha) (by exact hm) (by omega) (by omega)).mono ?_
  rintro e w1 ⟨A1, n1, c1, rfl, hn1, hown1, hb1⟩
  rw [HT.out] at hn1 hown1 ⊢
  obtain rfl : n1 = 4 := by rw [← hn1]; exact LR.out
  clear hn1
  have rm := (hm).below hb1
  go_wp2_with fail
  go_region_held3 (fun _ => True) (trivial) ((first
    | (go_at_call 13; refine (ones_any 96 12 _ (by decide) (by decide) _ _ rfl rfl).mono ?_; rintro e w5 ⟨A5, n5, c5, rfl, hn5, hown5, hb5⟩; have HN5 := Lib.hid hn5; clear hn5)
    | (go_at_call 11; refine (same_any _ _ _ _ _ _ (m.take 12) (cidr 12 96) _ H12.out HN5.out ((rm.cut0 12).belowD hb5 rfl rfl) (Rd.of_own hown5) (by decide) true HF.out).mono ?_; rintro e w6 ⟨rfl, k6, rfl⟩)))
  have hb5' := below_undrew hb5
  have TB2 := (hb1).trans ((hb5').mono (hb1).size)
  have TB3 := below_drewN TB2 k6
  go_wp2_with fail
  refine (specTo4_any _ _ _ x _ HX.out hcx (by exact (((ha).below hb1).below hb5').drewN _)).mono ?_
  rintro e w7 ⟨A7, n7, c7, rfl, hn7, hown7, hb7⟩
  rw [TI.out] at hn7 hown7 ⊢
  obtain rfl : n7 = 4 := by rw [← hn7]; exact HX.out
  clear hn7
  have TB4 := (TB3).trans ((hb7).mono (TB3).size)
  go_wp2_with fail
  refine (specAnd_any _ _ _ _ _ _ (x) (m.drop 12) _ HX.out HD.out (Nat.le_refl _) (by exact Rd.of_own (xs := x) hown7) (by exact (((((hm).below hb1).below hb5').drewN _).below hb7).drop 12) (by omega)).mono ?_
  rintro e w8 ⟨A8, n8, c8, rfl, hn8, hown8, hb8⟩
  obtain rfl : n8 = 4 := by rw [← hn8]; exact LR.out
  clear hn8
  have TB5 := (TB4).trans ((hb8).mono (TB4).size)
  go_wp2_with fail
  refine (same_any _ _ _ _ _ _ (andL x (m.drop 12)) (andL x (m.drop 12)) _ LR.out LR.out (by exact ((((Rd.of_own (xs := andL x (m.drop 12)) hown1).below hb5').drewN _).below hb7).below hb8) (by exact Rd.of_own (xs := andL x (m.drop 12)) hown8) (by omega) true (eqb_true rfl)).mono ?_
  rintro e w9 ⟨rfl, k9, rfl⟩
  have TB6 := below_drewN TB5 k9
  go_wp2
  go_ret
  exact ⟨rfl, TB6⟩

set_option maxHeartbeats 1000000 in
theorem FnMaskAll_46n (A M : Option Addr) (c d : Nat) (x m : List UInt8) (w : World) (hv : V4 w) (hx : x.length = 4) (hms : m.length = 16) (hcx : 4 ≤ c) (hdx : 16 ≤ d) (ha : Rd w A x) (hm : Rd w M m) (hf : m.take 12 ≠ ff12) :
    Calls Tryd.prog 4 #[.slice A 4 c, .slice M 16 d] w fun e w' => e = .returned (.bool true) ∧ Below w.heap.size w w' := by
  have HX := Lib.hid hx
  have HM := Lib.hid hms
  have HT := Lib.hid (maskL_46n hx hms hf)
  have TI := Lib.hid (to4_four hx)
  have H12 := Lib.hid (show (m.take 12).length = 12 by simp [hms])
  obtain ⟨mb, mo, rfl, _⟩ := hm.at_ (k := 0) (by omega)
  have hc1 : (12 : Int) ≤ (d : Int) := by omega
  have hc2 : (16 : Int) ≤ (d : Int) := by omega
  have HF := Lib.hid (show eqb (m.take 12) (cidr 12 96) = false by rw [ff_cidr]; exact eqb_false hf)
  clear hx hms hf
  go_enter Tryd.func4, Tryd.ntmps4
  go_wp2_with fail
  refine (implMask_any _ _ _ _ _ _ x m _ (by exact hv) HX.out HM.out (by exact ha) (by exact hm) (by omega) (by omega)).mono ?_
  rintro e w1 ⟨A1, n1, c1, rfl, hn1, hown1, hb1⟩
  rw [HT.out] at hn1 hown1 ⊢
  obtain rfl : n1 = 0 := hn1.symm
  clear hn1
  have rm := (hm).below hb1
  go_wp2_with fail
  go_region_held3 (fun _ => True) (trivial) ((first
    | (go_at_call 13; refine (ones_any 96 12 _ (by decide) (by decide) _ _ rfl rfl).mono ?_; rintro e w5 ⟨A5, n5, c5, rfl, hn5, hown5, hb5⟩; have HN5 := Lib.hid hn5; clear hn5)
    | (go_at_call 11; refine (same_any _ _ _ _ _ _ (m.take 12) (cidr 12 96) _ H12.out HN5.out ((rm.cut0 12).belowD hb5 rfl rfl) (Rd.of_own hown5) (by decide) false HF.out).mono ?_; rintro e w6 ⟨rfl, k6, rfl⟩)))
  have hb5' := below_undrew hb5
  have TB2 := (hb1).trans ((hb5').mono (hb1).size)
  have TB3 := below_drewN TB2 k6
  go_wp2_with fail
  refine (specTo4_any _ _ _ x _ HX.out hcx (by exact (((ha).below hb1).below hb5').drewN _)).mono ?_
  rintro e w7 ⟨A7, n7, c7, rfl, hn7, hown7, hb7⟩
  rw [TI.out]
  clear hn7 hown7
  have TB4 := (TB3).trans ((hb7).mono (TB3).size)
  go_wp2
  go_ret
  exact ⟨rfl, TB4⟩

set_option maxHeartbeats 1000000 in
theorem FnMaskAll_64y (A M : Option Addr) (c d : Nat) (x m : List UInt8) (w : World) (hv : V4 w) (hx : x.length = 16) (hms : m.length = 4) (hcx : 16 ≤ c) (hdx : 4 ≤ d) (ha : Rd w A x) (hm : Rd w M m) (hmi : x.take 12 = mp) :
    Calls Tryd.prog 4 #[.slice A 16 c, .slice M 4 d] w fun e w' => e = .returned (.bool true) ∧ Below w.heap.size w w' := by
  have HX := Lib.hid hx
  have HM := Lib.hid hms
  have HT := Lib.hid (maskL_64 hx hms hmi)
  have TI := Lib.hid (to4_mapped hx hmi)
  have HD := Lib.hid (show (x.drop 12).length = 4 by simp [hx])
  have LR := Lib.hid (and_len (show (x.drop 12).length = 4 by simp [hx]) hms)
  clear hx hms hmi
  go_enter Tryd.func4, Tryd.ntmps4
  go_wp2_with fail
  refine (implMask_any _ _ _ _ _ _ x m _ (by exact hv) HX.out HM.out (by exact ha) (by exact hm) (by omega) (by omega)).mono ?_
  rintro e w1 ⟨A1, n1, c1, rfl, hn1, hown1, hb1⟩
  rw [HT.out] at hn1 hown1 ⊢
  obtain rfl : n1 = 4 := by rw [← hn1]; exact LR.out
  clear hn1
  go_wp2
  go_quiet (fail)
  have TB2 := below_drewN hb1 nq
  go_wp2_with fail
  refine (specTo4_any _ _ _ x _ HX.out hcx (by exact ((ha).below hb1).drewN _)).mono ?_
  rintro e w2 ⟨A2, n2, c2, rfl, hn2, hown2, hb2⟩
  rw [TI.out] at hn2 hown2 ⊢
  obtain rfl : n2 = 4 := by rw [← hn2]; exact HD.out
  clear hn2
  have TB3 := (TB2).trans ((hb2).mono (TB2).size)
  go_wp2_with fail
  refine (specAnd_any _ _ _ _ _ _ (x.drop 12) (m) _ HD.out HM.out (Nat.le_refl _) (by exact Rd.of_own (xs := x.drop 12) hown2) (by exact (((hm).below hb1).drewN _).below hb2) (by omega)).mono ?_
  rintro e w3 ⟨A3, n3, c3, rfl, hn3, hown3, hb3⟩
  obtain rfl : n3 = 4 := by rw [← hn3]; exact LR.out
  clear hn3
  have TB4 := (TB3).trans ((hb3).mono (TB3).size)
  go_wp2_with fail
  refine (same_any _ _ _ _ _ _ (andL (x.drop 12) m) (andL (x.drop 12) m) _ LR.out LR.out (by exact (((Rd.of_own (xs := andL (x.drop 12) m) hown1).drewN _).below hb2).below hb3) (by exact Rd.of_own (xs := andL (x.drop 12) m) hown3) (by omega) true (eqb_true rfl)).mono ?_
  rintro e w4 ⟨rfl, k4, rfl⟩
  have TB5 := below_drewN TB4 k4
  go_wp2
  go_ret
  exact ⟨rfl, TB5⟩

set_option maxHeartbeats 1000000 in
theorem FnMaskAll_64n (A M : Option Addr) (c d : Nat) (x m : List UInt8) (w : World) (hv : V4 w) (hx : x.length = 16) (hms : m.length = 4) (hcx : 16 ≤ c) (hdx : 4 ≤ d) (ha : Rd w A x) (hm : Rd w M m) (hmi : x.take 12 ≠ mp) :
    Calls Tryd.prog 4 #[.slice A 16 c, .slice M 4 d] w fun e w' => e = .returned (.bool true) ∧ Below w.heap.size w w' := by
  have HX := Lib.hid hx
  have HM := Lib.hid hms
  have HT := Lib.hid (maskL_64n hx hms hmi)
  have TI := Lib.hid (to4_six hx hmi)

  clear hx hms hmi
  go_enter Tryd.func4, Tryd.ntmps4
  go_wp2_with fail
  refine (implMask_any _ _ _ _ _ _ x m _ (by exact hv) HX.out HM.out (by exact ha) (by exact hm) (by omega) (by omega)).mono ?_
  rintro e w1 ⟨A1, n1, c1, rfl, hn1, hown1, hb1⟩
  rw [HT.out] at hn1 hown1 ⊢
  obtain rfl : n1 = 0 := hn1.symm
  clear hn1
  go_wp2
  go_quiet (fail)
  have TB2 := below_drewN hb1 nq
  go_wp2_with fail
  refine (specTo4_any _ _ _ x _ HX.out hcx (by exact ((ha).below hb1).drewN _)).mono ?_
  rintro e w2 ⟨A2, n2, c2, rfl, hn2, hown2, hb2⟩
  rw [TI.out]
  clear hn2 hown2
  have TB3 := (TB2).trans ((hb2).mono (TB2).size)
  go_wp2
  go_ret
  exact ⟨rfl, TB3⟩

set_option maxHeartbeats 1000000 in
theorem FnMaskAll_o4 (A M : Option Addr) (k c d : Nat) (x m : List UInt8) (w : World) (hv : V4 w) (hx : x.length = 4) (hms : m.length = k) (hcx : 4 ≤ c) (hdx : k ≤ d) (ha : Rd w A x) (hm : Rd w M m) (hk4 : k ≠ 4) (hk16 : k ≠ 16) (hs2 : k ≤ 140737488351232) :
    Calls Tryd.prog 4 #[.slice A 4 c, .slice M k d] w fun e w' => e = .returned (.bool true) ∧ Below w.heap.size w w' := by
  have HX := Lib.hid hx
  have HM := Lib.hid hms
  have HT := Lib.hid (maskL_other (xs := x) (ms := m) (by omega) (by omega) (by omega))
  have TI := Lib.hid (to4_four hx)
  have t1 : ((k : Int) == 16) = false := by simp; omega
  have t2 : ((k : Int) == 4) = false := by simp; omega
  have t3 : ((4 : Int) != (k : Int)) = true := by simp; omega
  clear hx hms hk4 hk16
  go_enter Tryd.func4, Tryd.ntmps4
  go_wp2_with fail
  refine (implMask_any _ _ _ _ _ _ x m _ (by exact hv) HX.out HM.out (by exact ha) (by exact hm) (by omega) (by omega)).mono ?_
  rintro e w1 ⟨A1, n1, c1, rfl, hn1, hown1, hb1⟩
  rw [HT.out] at hn1 hown1 ⊢
  obtain rfl : n1 = 0 := hn1.symm
  clear hn1
  go_wp2
  go_quiet (fail)
  have TB2 := below_drewN hb1 nq
  go_wp2_with fail
  refine (specTo4_any _ _ _ x _ HX.out hcx (by exact ((ha).below hb1).drewN _)).mono ?_
  rintro e w2 ⟨A2, n2, c2, rfl, hn2, hown2, hb2⟩
  rw [TI.out]
  clear hn2 hown2
  have TB3 := (TB2).trans ((hb2).mono (TB2).size)
  go_wp2
  go_ret
  exact ⟨rfl, TB3⟩

set_option maxHeartbeats 1000000 in
theorem FnMaskAll_o16m (A M : Option Addr) (k c d : Nat) (x m : List UInt8) (w : World) (hv : V4 w) (hx : x.length = 16) (hms : m.length = k) (hcx : 16 ≤ c) (hdx : k ≤ d) (ha : Rd w A x) (hm : Rd w M m) (hk4 : k ≠ 4) (hk16 : k ≠ 16) (hmi : x.take 12 = mp) (hs2 : k ≤ 140737488351232) :
    Calls Tryd.prog 4 #[.slice A 16 c, .slice M k d] w fun e w' => e = .returned (.bool true) ∧ Below w.heap.size w w' := by
  have HX := Lib.hid hx
  have HM := Lib.hid hms
  have HT := Lib.hid (maskL_other (xs := x) (ms := m) (by omega) (by omega) (by omega))
  have TI := Lib.hid (to4_mapped hx hmi)
  have t1 : ((k : Int) == 16) = false := by simp; omega
  have t2 : ((k : Int) == 4) = false := by simp; omega
  have t3 : ((16 : Int) != (k : Int)) = true := by simp; omega
  clear hx hms hk4 hk16 hmi
  go_enter Tryd.func4, Tryd.ntmps4
  go_wp2_with fail
  refine (implMask_any _ _ _ _ _ _ x m _ (by exact hv) HX.out HM.out (by exact ha) (by exact hm) (by omega) (by omega)).mono ?_
  rintro e w1 ⟨A1, n1, c1, rfl, hn1, hown1, hb1⟩
  rw [HT.out] at hn1 hown1 ⊢
  obtain rfl : n1 = 0 := hn1.symm
  clear hn1
  go_wp2
  go_quiet (fail)
  have TB2 := below_drewN hb1 nq
  go_wp2_with fail
  refine (specTo4_any _ _ _ x _ HX.out hcx (by exact ((ha).below hb1).drewN _)).mono ?_
  rintro e w2 ⟨A2, n2, c2, rfl, hn2, hown2, hb2⟩
  rw [TI.out]
  clear hn2 hown2
  have TB3 := (TB2).trans ((hb2).mono (TB2).size)
  go_wp2
  go_ret
  exact ⟨rfl, TB3⟩

set_option maxHeartbeats 1000000 in
theorem FnMaskAll_o16n (A M : Option Addr) (k c d : Nat) (x m : List UInt8) (w : World) (hv : V4 w) (hx : x.length = 16) (hms : m.length = k) (hcx : 16 ≤ c) (hdx : k ≤ d) (ha : Rd w A x) (hm : Rd w M m) (hk4 : k ≠ 4) (hk16 : k ≠ 16) (hmi : x.take 12 ≠ mp) (hs2 : k ≤ 140737488351232) :
    Calls Tryd.prog 4 #[.slice A 16 c, .slice M k d] w fun e w' => e = .returned (.bool true) ∧ Below w.heap.size w w' := by
  have HX := Lib.hid hx
  have HM := Lib.hid hms
  have HT := Lib.hid (maskL_other (xs := x) (ms := m) (by omega) (by omega) (by omega))
  have TI := Lib.hid (to4_six hx hmi)
  have t1 : ((k : Int) == 16) = false := by simp; omega
  have t2 : ((k : Int) == 4) = false := by simp; omega
  have t3 : ((16 : Int) != (k : Int)) = true := by simp; omega
  clear hx hms hk4 hk16 hmi
  go_enter Tryd.func4, Tryd.ntmps4
  go_wp2_with fail
  refine (implMask_any _ _ _ _ _ _ x m _ (by exact hv) HX.out HM.out (by exact ha) (by exact hm) (by omega) (by omega)).mono ?_
  rintro e w1 ⟨A1, n1, c1, rfl, hn1, hown1, hb1⟩
  rw [HT.out] at hn1 hown1 ⊢
  obtain rfl : n1 = 0 := hn1.symm
  clear hn1
  go_wp2
  go_quiet (fail)
  have TB2 := below_drewN hb1 nq
  go_wp2_with fail
  refine (specTo4_any _ _ _ x _ HX.out hcx (by exact ((ha).below hb1).drewN _)).mono ?_
  rintro e w2 ⟨A2, n2, c2, rfl, hn2, hown2, hb2⟩
  rw [TI.out]
  clear hn2 hown2
  have TB3 := (TB2).trans ((hb2).mono (TB2).size)
  go_wp2
  go_ret
  exact ⟨rfl, TB3⟩

set_option maxHeartbeats 1000000 in
theorem FnMaskAll_onk (A M : Option Addr) (n k c d : Nat) (x m : List UInt8) (w : World) (hv : V4 w) (hx : x.length = n) (hms : m.length = k) (hcx : n ≤ c) (hdx : k ≤ d) (ha : Rd w A x) (hm : Rd w M m) (h4 : n ≠ 4) (h16 : n ≠ 16) (hne : n ≠ k) (hs : n ≤ 140737488351232) (b16 : Bool) (t16 : ((k : Int) == 16) = b16) (hs2 : k ≤ 140737488351232) :
    Calls Tryd.prog 4 #[.slice A n c, .slice M k d] w fun e w' => e = .returned (.bool true) ∧ Below w.heap.size w w' := by
  have HX := Lib.hid hx
  have HM := Lib.hid hms
  have HT := Lib.hid (maskL_other (xs := x) (ms := m) (by omega) (by omega) (by omega))
  have TI := Lib.hid (to4_other (xs := x) (by omega) (by omega))
  have t1 : ((n : Int) == 4) = false := by simp; omega
  have t3 : ((n : Int) != (k : Int)) = true := by simp; omega
  clear hx hms h4 h16 hne
  rcases b16 with _ | _
  all_goals
    go_enter Tryd.func4, Tryd.ntmps4
    go_wp2_with fail
    refine (implMask_any _ _ _ _ _ _ x m _ (by exact hv) HX.out HM.out (by exact ha) (by exact hm) (by omega) (by omega)).mono ?_
    rintro e w1 ⟨A1, n1, c1, rfl, hn1, hown1, hb1⟩
    rw [HT.out] at hn1 hown1 ⊢
    obtain rfl : n1 = 0 := hn1.symm
    clear hn1
    go_wp2
    go_quiet (fail)
    have TB2 := below_drewN hb1 nq
    go_wp2_with fail
    refine (specTo4_any _ _ _ x _ HX.out hcx (by exact ((ha).below hb1).drewN _)).mono ?_
    rintro e w2 ⟨A2, n2, c2, rfl, hn2, hown2, hb2⟩
    rw [TI.out]
    clear hn2 hown2
    have TB3 := (TB2).trans ((hb2).mono (TB2).size)
    go_wp2
    go_ret
    exact ⟨rfl, TB3⟩

theorem walk_FnMaskAll (A0 : Option Addr) (n0 c0 : Nat) (x0 : List UInt8) (A1 : Option Addr) (n1 c1 : Nat) (x1 : List UInt8) (w : World) (hn0 : x0.length = n0) (hc0 : n0 ≤ c0) (hs0 : c0 ≤ 140737488351232) (rd0 : Rd w A0 x0) (hn1 : x1.length = n1) (hc1 : n1 ≤ c1) (hs1 : c1 ≤ 140737488351232) (rd1 : Rd w A1 x1) (hv : V4 w) :
    Calls Tryd.prog 4 #[.slice A0 n0 c0, .slice A1 n1 c1] w fun e w' => e = .returned (.bool true) ∧ Below w.heap.size w w' := by
  by_cases h0 : n0 = n1
  · subst h0
    by_cases h4 : n0 = 4
    · subst h4; exact FnMaskAll_s4 A0 A1 c0 c1 x0 x1 w hv hn0 hn1 hc0 hc1 rd0 rd1
    · by_cases h16 : n0 = 16
      · subst h16
        by_cases hm : x0.take 12 = mp
        · exact FnMaskAll_s16m A0 A1 c0 c1 x0 x1 w hv hn0 hn1 hc0 hc1 rd0 rd1 hm
        · exact FnMaskAll_s16n A0 A1 c0 c1 x0 x1 w hv hn0 hn1 hc0 hc1 rd0 rd1 hm
      · exact FnMaskAll_sn A0 A1 n0 c0 c1 x0 x1 w hv hn0 hn1 hc0 hc1 rd0 rd1 h4 h16 (by omega)
  · by_cases h4 : n0 = 4
    · subst h4
      by_cases h16 : n1 = 16
      · subst h16
        by_cases hf : x1.take 12 = ff12
        · exact FnMaskAll_46y A0 A1 c0 c1 x0 x1 w hv hn0 hn1 hc0 hc1 rd0 rd1 hf
        · exact FnMaskAll_46n A0 A1 c0 c1 x0 x1 w hv hn0 hn1 hc0 hc1 rd0 rd1 hf
      · exact FnMaskAll_o4 A0 A1 n1 c0 c1 x0 x1 w hv hn0 hn1 hc0 hc1 rd0 rd1 (by omega) h16 (by omega)
    · by_cases h16 : n0 = 16
      · subst h16
        by_cases k4 : n1 = 4
        · subst k4
          by_cases hm : x0.take 12 = mp
          · exact FnMaskAll_64y A0 A1 c0 c1 x0 x1 w hv hn0 hn1 hc0 hc1 rd0 rd1 hm
          · exact FnMaskAll_64n A0 A1 c0 c1 x0 x1 w hv hn0 hn1 hc0 hc1 rd0 rd1 hm
        · by_cases hm : x0.take 12 = mp
          · exact FnMaskAll_o16m A0 A1 n1 c0 c1 x0 x1 w hv hn0 hn1 hc0 hc1 rd0 rd1 k4 (by omega) hm (by omega)
          · exact FnMaskAll_o16n A0 A1 n1 c0 c1 x0 x1 w hv hn0 hn1 hc0 hc1 rd0 rd1 k4 (by omega) hm (by omega)
      · exact FnMaskAll_onk A0 A1 n0 n1 c0 c1 x0 x1 w hv hn0 hn1 hc0 hc1 rd0 rd1 h4 h16 h0 (by omega) _ rfl (by omega)
end Go.Proofs.YtkabdfmcflkkoaaDoor
