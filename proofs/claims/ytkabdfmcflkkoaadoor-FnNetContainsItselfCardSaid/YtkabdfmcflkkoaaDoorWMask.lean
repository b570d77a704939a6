/-
  The walks of the statements FnMask, FnMaskTwice, FnMasksNested and FnNetContainsItself: they return true and change nothing that was there.
-/
import Derived.Test.YtkabdfmcflkkoaaDoorMask
import Derived.Test.YtkabdfmcflkkoaaDoorCidr
import Derived.Test.YtkabdfmcflkkoaaDoorContains
import Derived.Test.YtkabdfmcflkkoaaDoorSpecTo4
import Derived.Test.YtkabdfmcflkkoaaDoorValid
namespace Go.Proofs.YtkabdfmcflkkoaaDoor
open Go.RowKit
set_option linter.unusedVariables false

theorem andL_ext {a b : List UInt8} (hl : a.length = b.length) (h : ∀ j (h1 : j < a.length) (h2 : j < b.length), a[j] = b[j]) : a = b := List.ext_getElem hl fun j h1 h2 => h j h1 h2
theorem andL_idem (xs ms : List UInt8) : andL (andL xs ms) ms = andL xs ms := by
  apply List.ext_getElem
  · simp [andL]
  · intro j h1 h2
    simp only [andL, List.getElem_zipWith]
    rw [UInt8.and_assoc, UInt8.and_self]
theorem andL_assoc (xs ys zs : List UInt8) : andL (andL xs ys) zs = andL xs (andL ys zs) := by
  apply List.ext_getElem
  · simp [andL]
  · intro j h1 h2
    simp only [andL, List.getElem_zipWith]
    rw [UInt8.and_assoc]
theorem ob_and (a b : Nat) : ob a &&& ob b = ob (min a b) := by
  have key : ∀ (a b : Fin 9), ob a.val &&& ob b.val = ob (min a.val b.val) := by decide +kernel
  have e : ∀ m, ob m = ob (min m 8) := by
    intro m
    rcases Nat.lt_or_ge m 8 with h | h
    · rw [Nat.min_eq_left (by omega)]
    · rw [Nat.min_eq_right h, ob_big h, ob_big (Nat.le_refl 8)]
  rw [e a, e b, key ⟨min a 8, by omega⟩ ⟨min b 8, by omega⟩, e (min a b)]
  congr 1
  simp only
  omega
theorem cidr_and (l a b : Nat) (h : a ≤ b) : andL (cidr l a) (cidr l b) = cidr l a := by
  apply List.ext_getElem
  · simp [andL, cidr_length]
  · intro j h1 h2
    have hj : j < l := by simpa [cidr_length] using h2
    simp only [andL, List.getElem_zipWith]
    rw [cidr_get l a j hj, cidr_get l b j hj, ob_and]
    congr 1; omega
theorem cidr_and' (l a b : Nat) (h : a ≤ b) : andL (cidr l b) (cidr l a) = cidr l a := by
  apply List.ext_getElem
  · simp [andL, cidr_length]
  · intro j h1 h2
    have hj : j < l := by simpa [cidr_length] using h2
    simp only [andL, List.getElem_zipWith]
    rw [cidr_get l a j hj, cidr_get l b j hj, ob_and]
    congr 1; omega
theorem andL_len {xs ms : List UInt8} {l : Nat} (h1 : xs.length = l) (h2 : ms.length = l) : (andL xs ms).length = l := by rw [andL_length xs ms (by omega), h1]

set_option maxHeartbeats 1000000 in
theorem FnMask_4 (A M : Option Addr) (c d : Nat) (x m : List UInt8) (w : World) (hv : V4 w) (hx : x.length = 4) (hms : m.length = 4) (ha : Rd w A x) (hm : Rd w M m) :
    Calls Tryd.prog 3 #[.slice A 4 c, .slice M 4 d] w fun e w' => e = .returned (.bool true) ∧ Below w.heap.size w w' := by
  have HX := Lib.hid hx
  have HM := Lib.hid hms
  have HT := Lib.hid (maskL_same (hx.trans hms.symm))
  have HL := Lib.hid (andL_len hx hms)
  clear hx hms
  go_enter Tryd.func3, Tryd.ntmps3
  go_wp2_with fail
  refine (valid_any _ 4 _ _ true (by decide)).mono ?_
  rintro e w0 ⟨rfl, rfl⟩
  go_wp2_with fail
  refine (implMask_any _ _ _ _ _ _ x m _ (by exact hv) HX.out HM.out (by exact ha) (by exact hm) (by decide) (by decide)).mono ?_
  rintro e w1 ⟨A1, n1, c1, rfl, hn1, hown1, hb1⟩
  rw [HT.out] at hn1 hown1 ⊢
  obtain rfl : n1 = 4 := by rw [← hn1]; exact HL.out
  clear hn1
  go_wp2_with fail
  refine (specAnd_any _ _ _ _ _ _ x m _ HX.out HM.out (by decide) (by exact (ha).below hb1) (by exact (hm).below hb1) (by decide)).mono ?_
  rintro e w2 ⟨A2, n2, c2, rfl, hn2, hown2, hb2⟩
  obtain rfl : n2 = 4 := by rw [← hn2]; exact HL.out
  clear hn2
  have TB2 := (hb1).trans ((hb2).mono (hb1).size)
  go_wp2_with fail
  refine (same_any _ _ _ _ _ _ (andL x m) (andL x m) _ HL.out HL.out (by exact (Rd.of_own (xs := andL x m) hown1).below hb2) (by exact Rd.of_own (xs := andL x m) hown2) (by decide) true (eqb_true rfl)).mono ?_
  rintro e w3 ⟨rfl, k3, rfl⟩
  have TB3 := below_drewN TB2 k3
  go_wp2
  go_ret
  exact ⟨rfl, TB3⟩

set_option maxHeartbeats 1000000 in
theorem FnMask_16 (A M : Option Addr) (c d : Nat) (x m : List UInt8) (w : World) (hv : V4 w) (hx : x.length = 16) (hms : m.length = 16) (ha : Rd w A x) (hm : Rd w M m) :
    Calls Tryd.prog 3 #[.slice A 16 c, .slice M 16 d] w fun e w' => e = .returned (.bool true) ∧ Below w.heap.size w w' := by
  have HX := Lib.hid hx
  have HM := Lib.hid hms
  have HT := Lib.hid (maskL_same (hx.trans hms.symm))
  have HL := Lib.hid (andL_len hx hms)
  clear hx hms
  go_enter Tryd.func3, Tryd.ntmps3
  go_wp2_with fail
  refine (valid_any _ 16 _ _ true (by decide)).mono ?_
  rintro e w0 ⟨rfl, rfl⟩
  go_wp2_with fail
  refine (implMask_any _ _ _ _ _ _ x m _ (by exact hv) HX.out HM.out (by exact ha) (by exact hm) (by decide) (by decide)).mono ?_
  rintro e w1 ⟨A1, n1, c1, rfl, hn1, hown1, hb1⟩
  rw [HT.out] at hn1 hown1 ⊢
  obtain rfl : n1 = 16 := by rw [← hn1]; exact HL.out
  clear hn1
  go_wp2_with fail
  refine (specAnd_any _ _ _ _ _ _ x m _ HX.out HM.out (by decide) (by exact (ha).below hb1) (by exact (hm).below hb1) (by decide)).mono ?_
  rintro e w2 ⟨A2, n2, c2, rfl, hn2, hown2, hb2⟩
  obtain rfl : n2 = 16 := by rw [← hn2]; exact HL.out
  clear hn2
  have TB2 := (hb1).trans ((hb2).mono (hb1).size)
  go_wp2_with fail
  refine (same_any _ _ _ _ _ _ (andL x m) (andL x m) _ HL.out HL.out (by exact (Rd.of_own (xs := andL x m) hown1).below hb2) (by exact Rd.of_own (xs := andL x m) hown2) (by decide) true (eqb_true rfl)).mono ?_
  rintro e w3 ⟨rfl, k3, rfl⟩
  have TB3 := below_drewN TB2 k3
  go_wp2
  go_ret
  exact ⟨rfl, TB3⟩

set_option maxHeartbeats 400000 in
theorem walk_FnMask (A0 : Option Addr) (n0 c0 : Nat) (x0 : List UInt8) (A1 : Option Addr) (n1 c1 : Nat) (x1 : List UInt8) (w : World) (hn0 : x0.length = n0) (hc0 : n0 ≤ c0) (hs0 : c0 ≤ 140737488351232) (rd0 : Rd w A0 x0) (hn1 : x1.length = n1) (hc1 : n1 ≤ c1) (hs1 : c1 ≤ 140737488351232) (rd1 : Rd w A1 x1) (hv : V4 w) :
    Calls Tryd.prog 3 #[.slice A0 n0 c0, .slice A1 n1 c1] w fun e w' => e = .returned (.bool true) ∧ Below w.heap.size w w' := by
  by_cases hval : n0 = 4 ∨ n0 = 16
  · by_cases h1 : n1 = n0
    · subst h1
      rcases hval with rfl | rfl
      · exact FnMask_4 A0 A1 c0 c1 x0 x1 w hv hn0 hn1 rd0 rd1
      · exact FnMask_16 A0 A1 c0 c1 x0 x1 w hv hn0 hn1 rd0 rd1
    · have V := Lib.hid (show decide (n0 = 4 ∨ n0 = 16) = true by simpa using hval)
      have t1 : ((n1 : Int) != (n0 : Int)) = true := by simp; omega
      clear hval h1 hn0 hn1
      go_enter Tryd.func3, Tryd.ntmps3
      go_wp2_with fail
      refine (valid_any _ _ _ _ true V.out).mono ?_
      rintro e w0 ⟨rfl, rfl⟩
      go_wp2
      go_ret
      exact ⟨rfl, Below.refl _ _⟩
  · have V := Lib.hid (show decide (n0 = 4 ∨ n0 = 16) = false by simpa using hval)
    clear hval hn0 hn1
    go_enter Tryd.func3, Tryd.ntmps3
    go_wp2_with fail
    refine (valid_any _ _ _ _ false V.out).mono ?_
    rintro e w0 ⟨rfl, rfl⟩
    go_wp2
    go_ret
    exact ⟨rfl, Below.refl _ _⟩

set_option maxHeartbeats 1000000 in
theorem FnMaskTwice_4 (A A1 A2 : Option Addr) (c c1 c2 : Nat) (x a b : List UInt8) (w : World) (hv : V4 w) (hx : x.length = 4) (hla : a.length = 4) (hlb : b.length = 4) (hcx : 4 ≤ c) (ha : Rd w A x) (hra : Rd w A1 a) (hrb : Rd w A2 b) :
    Calls Tryd.prog 5 #[.slice A 4 c, .slice A1 4 c1, .slice A2 4 c2] w fun e w' => e = .returned (.bool true) ∧ Below w.heap.size w w' := by
  have HX := Lib.hid hx
  have HA := Lib.hid hla
  have HB := Lib.hid hlb
  have L1 := Lib.hid (andL_len hx hla)
  have LAB := Lib.hid (andL_len hla hlb)
  have L2 := Lib.hid (andL_len hx (andL_len hla hlb))
  have T1 := Lib.hid (maskL_same (hx.trans hla.symm))
  have T2 := Lib.hid (show maskL (andL x a) a = some (andL x a) by rw [maskL_same ((andL_len hx hla).trans hla.symm), andL_idem])
  have T3 := Lib.hid (maskL_same (hx.trans (andL_len hla hlb).symm))
  have T4 := Lib.hid (show maskL (andL x a) b = some (andL x (andL a b)) by rw [maskL_same ((andL_len hx hla).trans hlb.symm), andL_assoc])
  have TI := Lib.hid (to4_four hx)
  have TX := Lib.hid (to4_four (andL_len hx hla))
  clear hx hla hlb
  go_enter Tryd.func5, Tryd.ntmps5
  go_wp2_with fail
  refine (valid_any _ 4 _ _ true (by decide)).mono ?_
  rintro e w0 ⟨rfl, rfl⟩
  go_wp2_with fail
  refine (specTo4_any _ _ _ x _ HX.out (by exact hcx) (by exact ha)).mono ?_
  rintro e w1 ⟨A1, n1, c1, rfl, hn1, hown1, hb1⟩
  rw [TI.out]
  clear hn1 hown1
  go_wp2_with fail
  refine (implMask_any _ _ _ _ _ _ x a _ (by exact (hv).below hb1) HX.out HA.out (by exact (ha).below hb1) (by exact (hra).below hb1) (by decide) (by decide)).mono ?_
  rintro e w2 ⟨A2, n2, c2, rfl, hn2, hown2, hb2⟩
  rw [T1.out] at hn2 hown2 ⊢
  obtain rfl : n2 = 4 := by rw [← hn2]; exact L1.out
  clear hn2
  have TB2 := (hb1).trans ((hb2).mono (hb1).size)
  go_wp2_with fail
  refine (implMask_any _ _ _ _ _ _ (andL x a) a _ (by exact ((hv).below hb1).below hb2) L1.out HA.out (by exact Rd.of_own (xs := andL x a) hown2) (by exact ((hra).below hb1).below hb2) (by decide) (by decide)).mono ?_
  rintro e w3 ⟨A3, n3, c3, rfl, hn3, hown3, hb3⟩
  rw [T2.out] at hn3 hown3 ⊢
  obtain rfl : n3 = 4 := by rw [← hn3]; exact L1.out
  clear hn3
  have TB3 := (TB2).trans ((hb3).mono (TB2).size)
  go_wp2_with fail
  refine (specAnd_any _ _ _ _ _ _ a b _ HA.out HB.out (by decide) (by exact (((hra).below hb1).below hb2).below hb3) (by exact (((hrb).below hb1).below hb2).below hb3) (by decide)).mono ?_
  rintro e w4 ⟨A4, n4, c4, rfl, hn4, hown4, hb4⟩
  obtain rfl : n4 = 4 := by rw [← hn4]; exact LAB.out
  clear hn4
  have TB4 := (TB3).trans ((hb4).mono (TB3).size)
  go_wp2_with fail
  refine (implMask_any _ _ _ _ _ _ x (andL a b) _ (by exact ((((hv).below hb1).below hb2).below hb3).below hb4) HX.out LAB.out (by exact ((((ha).below hb1).below hb2).below hb3).below hb4) (by exact Rd.of_own (xs := andL a b) hown4) (by decide) (by decide)).mono ?_
  rintro e w5 ⟨A5, n5, c5, rfl, hn5, hown5, hb5⟩
  rw [T3.out] at hn5 hown5 ⊢
  obtain rfl : n5 = 4 := by rw [← hn5]; exact L2.out
  clear hn5
  have TB5 := (TB4).trans ((hb5).mono (TB4).size)
  go_wp2_with fail
  refine (same_any _ _ _ _ _ _ (andL x a) (andL x a) _ L1.out L1.out (by exact (((Rd.of_own (xs := andL x a) hown2).below hb3).below hb4).below hb5) (by exact ((Rd.of_own (xs := andL x a) hown3).below hb4).below hb5) (by decide) true (eqb_true rfl)).mono ?_
  rintro e w6 ⟨rfl, k6, rfl⟩
  have TB6 := below_drewN TB5 k6
  go_wp2_with fail
  refine (specTo4_any _ _ _ (andL x a) _ L1.out (by exact own_cap hown2) (by exact ((((Rd.of_own (xs := andL x a) hown2).below hb3).below hb4).below hb5).drewN _)).mono ?_
  rintro e w7 ⟨A7, n7, c7, rfl, hn7, hown7, hb7⟩
  rw [TX.out]
  clear hn7 hown7
  have TB7 := (TB6).trans ((hb7).mono (TB6).size)
  go_wp2_with fail
  refine (implMask_any _ _ _ _ _ _ (andL x a) b _ (by exact (((((((hv).below hb1).below hb2).below hb3).below hb4).below hb5).drewN _).below hb7) L1.out HB.out (by exact (((((Rd.of_own (xs := andL x a) hown2).below hb3).below hb4).below hb5).drewN _).below hb7) (by exact (((((((hrb).below hb1).below hb2).below hb3).below hb4).below hb5).drewN _).below hb7) (by decide) (by decide)).mono ?_
  rintro e w8 ⟨A8, n8, c8, rfl, hn8, hown8, hb8⟩
  rw [T4.out] at hn8 hown8 ⊢
  obtain rfl : n8 = 4 := by rw [← hn8]; exact L2.out
  clear hn8
  have TB8 := (TB7).trans ((hb8).mono (TB7).size)
  go_wp2_with fail
  refine (same_any _ _ _ _ _ _ (andL x (andL a b)) (andL x (andL a b)) _ L2.out L2.out (by exact Rd.of_own (xs := andL x (andL a b)) hown8) (by exact (((Rd.of_own (xs := andL x (andL a b)) hown5).drewN _).below hb7).below hb8) (by decide) true (eqb_true rfl)).mono ?_
  rintro e w9 ⟨rfl, k9, rfl⟩
  have TB9 := below_drewN TB8 k9
  go_wp2
  go_ret
  exact ⟨rfl, TB9⟩

set_option maxHeartbeats 1000000 in
theorem FnMaskTwice_16m (A A1 A2 : Option Addr) (c c1 c2 : Nat) (x a b : List UInt8) (w : World) (hv : V4 w) (hx : x.length = 16) (hla : a.length = 16) (hlb : b.length = 16) (hcx : 16 ≤ c) (ha : Rd w A x) (hra : Rd w A1 a) (hrb : Rd w A2 b) (hmi : x.take 12 = mp) :
    Calls Tryd.prog 5 #[.slice A 16 c, .slice A1 16 c1, .slice A2 16 c2] w fun e w' => e = .returned (.bool true) ∧ Below w.heap.size w w' := by
  have HX := Lib.hid hx
  have HA := Lib.hid hla
  have HB := Lib.hid hlb
  have L1 := Lib.hid (andL_len hx hla)
  have LAB := Lib.hid (andL_len hla hlb)
  have L2 := Lib.hid (andL_len hx (andL_len hla hlb))
  have T1 := Lib.hid (maskL_same (hx.trans hla.symm))
  have T2 := Lib.hid (show maskL (andL x a) a = some (andL x a) by rw [maskL_same ((andL_len hx hla).trans hla.symm), andL_idem])
  have T3 := Lib.hid (maskL_same (hx.trans (andL_len hla hlb).symm))
  have T4 := Lib.hid (show maskL (andL x a) b = some (andL x (andL a b)) by rw [maskL_same ((andL_len hx hla).trans hlb.symm), andL_assoc])
  have TI := Lib.hid (to4_mapped hx hmi)
  clear hx hla hlb hmi
  go_enter Tryd.func5, Tryd.ntmps5
  go_wp2_with fail
  refine (valid_any _ 16 _ _ true (by decide)).mono ?_
  rintro e w0 ⟨rfl, rfl⟩
  go_wp2_with fail
  refine (specTo4_any _ _ _ x _ HX.out (by exact hcx) (by exact ha)).mono ?_
  rintro e w1 ⟨A1, n1, c1, rfl, hn1, hown1, hb1⟩
  rw [TI.out]
  clear hn1 hown1
  go_wp2
  go_ret
  exact ⟨rfl, hb1⟩

set_option maxHeartbeats 1000000 in
theorem FnMaskTwice_16x (A A1 A2 : Option Addr) (c c1 c2 : Nat) (x a b : List UInt8) (w : World) (hv : V4 w) (hx : x.length = 16) (hla : a.length = 16) (hlb : b.length = 16) (hcx : 16 ≤ c) (ha : Rd w A x) (hra : Rd w A1 a) (hrb : Rd w A2 b) (hmi : x.take 12 ≠ mp) (hmx : (andL x a).take 12 = mp) :
    Calls Tryd.prog 5 #[.slice A 16 c, .slice A1 16 c1, .slice A2 16 c2] w fun e w' => e = .returned (.bool true) ∧ Below w.heap.size w w' := by
  have HX := Lib.hid hx
  have HA := Lib.hid hla
  have HB := Lib.hid hlb
  have L1 := Lib.hid (andL_len hx hla)
  have LAB := Lib.hid (andL_len hla hlb)
  have L2 := Lib.hid (andL_len hx (andL_len hla hlb))
  have T1 := Lib.hid (maskL_same (hx.trans hla.symm))
  have T2 := Lib.hid (show maskL (andL x a) a = some (andL x a) by rw [maskL_same ((andL_len hx hla).trans hla.symm), andL_idem])
  have T3 := Lib.hid (maskL_same (hx.trans (andL_len hla hlb).symm))
  have T4 := Lib.hid (show maskL (andL x a) b = some (andL x (andL a b)) by rw [maskL_same ((andL_len hx hla).trans hlb.symm), andL_assoc])
  have TI := Lib.hid (to4_six hx hmi)
  have TX := Lib.hid (to4_mapped (andL_len hx hla) hmx)
  clear hx hla hlb hmi hmx
  go_enter Tryd.func5, Tryd.ntmps5
  go_wp2_with fail
  refine (valid_any _ 16 _ _ true (by decide)).mono ?_
  rintro e w0 ⟨rfl, rfl⟩
  go_wp2_with fail
  refine (specTo4_any _ _ _ x _ HX.out (by exact hcx) (by exact ha)).mono ?_
  rintro e w1 ⟨A1, n1, c1, rfl, hn1, hown1, hb1⟩
  rw [TI.out]
  clear hn1 hown1
  go_wp2_with fail
  refine (implMask_any _ _ _ _ _ _ x a _ (by exact (hv).below hb1) HX.out HA.out (by exact (ha).below hb1) (by exact (hra).below hb1) (by decide) (by decide)).mono ?_
  rintro e w2 ⟨A2, n2, c2, rfl, hn2, hown2, hb2⟩
  rw [T1.out] at hn2 hown2 ⊢
  obtain rfl : n2 = 16 := by rw [← hn2]; exact L1.out
  clear hn2
  have TB2 := (hb1).trans ((hb2).mono (hb1).size)
  go_wp2_with fail
  refine (implMask_any _ _ _ _ _ _ (andL x a) a _ (by exact ((hv).below hb1).below hb2) L1.out HA.out (by exact Rd.of_own (xs := andL x a) hown2) (by exact ((hra).below hb1).below hb2) (by decide) (by decide)).mono ?_
  rintro e w3 ⟨A3, n3, c3, rfl, hn3, hown3, hb3⟩
  rw [T2.out] at hn3 hown3 ⊢
  obtain rfl : n3 = 16 := by rw [← hn3]; exact L1.out
  clear hn3
  have TB3 := (TB2).trans ((hb3).mono (TB2).size)
  go_wp2_with fail
  refine (specAnd_any _ _ _ _ _ _ a b _ HA.out HB.out (by decide) (by exact (((hra).below hb1).below hb2).below hb3) (by exact (((hrb).below hb1).below hb2).below hb3) (by decide)).mono ?_
  rintro e w4 ⟨A4, n4, c4, rfl, hn4, hown4, hb4⟩
  obtain rfl : n4 = 16 := by rw [← hn4]; exact LAB.out
  clear hn4
  have TB4 := (TB3).trans ((hb4).mono (TB3).size)
  go_wp2_with fail
  refine (implMask_any _ _ _ _ _ _ x (andL a b) _ (by exact ((((hv).below hb1).below hb2).below hb3).below hb4) HX.out LAB.out (by exact ((((ha).below hb1).below hb2).below hb3).below hb4) (by exact Rd.of_own (xs := andL a b) hown4) (by decide) (by decide)).mono ?_
  rintro e w5 ⟨A5, n5, c5, rfl, hn5, hown5, hb5⟩
  rw [T3.out] at hn5 hown5 ⊢
  obtain rfl : n5 = 16 := by rw [← hn5]; exact L2.out
  clear hn5
  have TB5 := (TB4).trans ((hb5).mono (TB4).size)
  go_wp2_with fail
  refine (same_any _ _ _ _ _ _ (andL x a) (andL x a) _ L1.out L1.out (by exact (((Rd.of_own (xs := andL x a) hown2).below hb3).below hb4).below hb5) (by exact ((Rd.of_own (xs := andL x a) hown3).below hb4).below hb5) (by decide) true (eqb_true rfl)).mono ?_
  rintro e w6 ⟨rfl, k6, rfl⟩
  have TB6 := below_drewN TB5 k6
  go_wp2_with fail
  refine (specTo4_any _ _ _ (andL x a) _ L1.out (by exact own_cap hown2) (by exact ((((Rd.of_own (xs := andL x a) hown2).below hb3).below hb4).below hb5).drewN _)).mono ?_
  rintro e w7 ⟨A7, n7, c7, rfl, hn7, hown7, hb7⟩
  rw [TX.out]
  clear hn7 hown7
  have TB7 := (TB6).trans ((hb7).mono (TB6).size)
  go_wp2
  go_ret
  exact ⟨rfl, TB7⟩

set_option maxHeartbeats 1000000 in
theorem FnMaskTwice_16n (A A1 A2 : Option Addr) (c c1 c2 : Nat) (x a b : List UInt8) (w : World) (hv : V4 w) (hx : x.length = 16) (hla : a.length = 16) (hlb : b.length = 16) (hcx : 16 ≤ c) (ha : Rd w A x) (hra : Rd w A1 a) (hrb : Rd w A2 b) (hmi : x.take 12 ≠ mp) (hmx : (andL x a).take 12 ≠ mp) :
    Calls Tryd.prog 5 #[.slice A 16 c, .slice A1 16 c1, .slice A2 16 c2] w fun e w' => e = .returned (.bool true) ∧ Below w.heap.size w w' := by
  have HX := Lib.hid hx
  have HA := Lib.hid hla
  have HB := Lib.hid hlb
  have L1 := Lib.hid (andL_len hx hla)
  have LAB := Lib.hid (andL_len hla hlb)
  have L2 := Lib.hid (andL_len hx (andL_len hla hlb))
  have T1 := Lib.hid (maskL_same (hx.trans hla.symm))
  have T2 := Lib.hid (show maskL (andL x a) a = some (andL x a) by rw [maskL_same ((andL_len hx hla).trans hla.symm), andL_idem])
  have T3 := Lib.hid (maskL_same (hx.trans (andL_len hla hlb).symm))
  have T4 := Lib.hid (show maskL (andL x a) b = some (andL x (andL a b)) by rw [maskL_same ((andL_len hx hla).trans hlb.symm), andL_assoc])
  have TI := Lib.hid (to4_six hx hmi)
  have TX := Lib.hid (to4_six (andL_len hx hla) hmx)
  clear hx hla hlb hmi hmx
  go_enter Tryd.func5, Tryd.ntmps5
  go_wp2_with fail
  refine (valid_any _ 16 _ _ true (by decide)).mono ?_
  rintro e w0 ⟨rfl, rfl⟩
  go_wp2_with fail
  refine (specTo4_any _ _ _ x _ HX.out (by exact hcx) (by exact ha)).mono ?_
  rintro e w1 ⟨A1, n1, c1, rfl, hn1, hown1, hb1⟩
  rw [TI.out]
  clear hn1 hown1
  go_wp2_with fail
  refine (implMask_any _ _ _ _ _ _ x a _ (by exact (hv).below hb1) HX.out HA.out (by exact (ha).below hb1) (by exact (hra).below hb1) (by decide) (by decide)).mono ?_
  rintro e w2 ⟨A2, n2, c2, rfl, hn2, hown2, hb2⟩
  rw [T1.out] at hn2 hown2 ⊢
  obtain rfl : n2 = 16 := by rw [← hn2]; exact L1.out
  clear hn2
  have TB2 := (hb1).trans ((hb2).mono (hb1).size)
  go_wp2_with fail
  refine (implMask_any _ _ _ _ _ _ (andL x a) a _ (by exact ((hv).below hb1).below hb2) L1.out HA.out (by exact Rd.of_own (xs := andL x a) hown2) (by exact ((hra).below hb1).below hb2) (by decide) (by decide)).mono ?_
  rintro e w3 ⟨A3, n3, c3, rfl, hn3, hown3, hb3⟩
  rw [T2.out] at hn3 hown3 ⊢
  obtain rfl : n3 = 16 := by rw [← hn3]; exact L1.out
  clear hn3
  have TB3 := (TB2).trans ((hb3).mono (TB2).size)
  go_wp2_with fail
  refine (specAnd_any _ _ _ _ _ _ a b _ HA.out HB.out (by decide) (by exact (((hra).below hb1).below hb2).below hb3) (by exact (((hrb).below hb1).below hb2).below hb3) (by decide)).mono ?_
  rintro e w4 ⟨A4, n4, c4, rfl, hn4, hown4, hb4⟩
  obtain rfl : n4 = 16 := by rw [← hn4]; exact LAB.out
  clear hn4
  have TB4 := (TB3).trans ((hb4).mono (TB3).size)
  go_wp2_with fail
  refine (implMask_any _ _ _ _ _ _ x (andL a b) _ (by exact ((((hv).below hb1).below hb2).below hb3).below hb4) HX.out LAB.out (by exact ((((ha).below hb1).below hb2).below hb3).below hb4) (by exact Rd.of_own (xs := andL a b) hown4) (by decide) (by decide)).mono ?_
  rintro e w5 ⟨A5, n5, c5, rfl, hn5, hown5, hb5⟩
  rw [T3.out] at hn5 hown5 ⊢
  obtain rfl : n5 = 16 := by rw [← hn5]; exact L2.out
  clear hn5
  have TB5 := (TB4).trans ((hb5).mono (TB4).size)
  go_wp2_with fail
  refine (same_any _ _ _ _ _ _ (andL x a) (andL x a) _ L1.out L1.out (by exact (((Rd.of_own (xs := andL x a) hown2).below hb3).below hb4).below hb5) (by exact ((Rd.of_own (xs := andL x a) hown3).below hb4).below hb5) (by decide) true (eqb_true rfl)).mono ?_
  rintro e w6 ⟨rfl, k6, rfl⟩
  have TB6 := below_drewN TB5 k6
  go_wp2_with fail
  refine (specTo4_any _ _ _ (andL x a) _ L1.out (by exact own_cap hown2) (by exact ((((Rd.of_own (xs := andL x a) hown2).below hb3).below hb4).below hb5).drewN _)).mono ?_
  rintro e w7 ⟨A7, n7, c7, rfl, hn7, hown7, hb7⟩
  rw [TX.out]
  clear hn7 hown7
  have TB7 := (TB6).trans ((hb7).mono (TB6).size)
  go_wp2_with fail
  refine (implMask_any _ _ _ _ _ _ (andL x a) b _ (by exact (((((((hv).below hb1).below hb2).below hb3).below hb4).below hb5).drewN _).below hb7) L1.out HB.out (by exact (((((Rd.of_own (xs := andL x a) hown2).below hb3).below hb4).below hb5).drewN _).below hb7) (by exact (((((((hrb).below hb1).below hb2).below hb3).below hb4).below hb5).drewN _).below hb7) (by decide) (by decide)).mono ?_
  rintro e w8 ⟨A8, n8, c8, rfl, hn8, hown8, hb8⟩
  rw [T4.out] at hn8 hown8 ⊢
  obtain rfl : n8 = 16 := by rw [← hn8]; exact L2.out
  clear hn8
  have TB8 := (TB7).trans ((hb8).mono (TB7).size)
  go_wp2_with fail
  refine (same_any _ _ _ _ _ _ (andL x (andL a b)) (andL x (andL a b)) _ L2.out L2.out (by exact Rd.of_own (xs := andL x (andL a b)) hown8) (by exact (((Rd.of_own (xs := andL x (andL a b)) hown5).drewN _).below hb7).below hb8) (by decide) true (eqb_true rfl)).mono ?_
  rintro e w9 ⟨rfl, k9, rfl⟩
  have TB9 := below_drewN TB8 k9
  go_wp2
  go_ret
  exact ⟨rfl, TB9⟩

set_option maxHeartbeats 400000 in
theorem walk_FnMaskTwice (A0 : Option Addr) (n0 c0 : Nat) (x0 : List UInt8) (A1 : Option Addr) (n1 c1 : Nat) (x1 : List UInt8) (A2 : Option Addr) (n2 c2 : Nat) (x2 : List UInt8) (w : World) (hn0 : x0.length = n0) (hc0 : n0 ≤ c0) (hs0 : c0 ≤ 140737488351232) (rd0 : Rd w A0 x0) (hn1 : x1.length = n1) (hc1 : n1 ≤ c1) (hs1 : c1 ≤ 140737488351232) (rd1 : Rd w A1 x1) (hn2 : x2.length = n2) (hc2 : n2 ≤ c2) (hs2 : c2 ≤ 140737488351232) (rd2 : Rd w A2 x2) (hv : V4 w) :
    Calls Tryd.prog 5 #[.slice A0 n0 c0, .slice A1 n1 c1, .slice A2 n2 c2] w fun e w' => e = .returned (.bool true) ∧ Below w.heap.size w w' := by
  by_cases hval : n0 = 4 ∨ n0 = 16
  · have V := Lib.hid (show decide (n0 = 4 ∨ n0 = 16) = true by simpa using hval)
    by_cases h1 : n1 = n0
    · by_cases h2 : n2 = n0
      · subst h1 h2
        rcases hval with rfl | rfl
        · exact FnMaskTwice_4 A0 A1 A2 c0 c1 c2 x0 x1 x2 w hv hn0 hn1 hn2 hc0 rd0 rd1 rd2
        · by_cases hmi : x0.take 12 = mp
          · exact FnMaskTwice_16m A0 A1 A2 c0 c1 c2 x0 x1 x2 w hv hn0 hn1 hn2 hc0 rd0 rd1 rd2 hmi
          · by_cases hmx : (andL x0 x1).take 12 = mp
            · exact FnMaskTwice_16x A0 A1 A2 c0 c1 c2 x0 x1 x2 w hv hn0 hn1 hn2 hc0 rd0 rd1 rd2 hmi hmx
            · exact FnMaskTwice_16n A0 A1 A2 c0 c1 c2 x0 x1 x2 w hv hn0 hn1 hn2 hc0 rd0 rd1 rd2 hmi hmx
      · have t1 : ((n1 : Int) != (n0 : Int)) = false := by simp [h1]
        have t2 : ((n2 : Int) != (n0 : Int)) = true := by simp; omega
        clear hval h1 h2 hn0 hn1 hn2
        go_enter Tryd.func5, Tryd.ntmps5
        go_wp2_with fail
        refine (valid_any _ _ _ _ true V.out).mono ?_
        rintro e w0 ⟨rfl, rfl⟩
        go_wp2
        go_ret
        exact ⟨rfl, Below.refl _ _⟩
    · have t1 : ((n1 : Int) != (n0 : Int)) = true := by simp; omega
      clear hval h1 hn0 hn1 hn2
      go_enter Tryd.func5, Tryd.ntmps5
      go_wp2_with fail
      refine (valid_any _ _ _ _ true V.out).mono ?_
      rintro e w0 ⟨rfl, rfl⟩
      go_wp2
      go_ret
      exact ⟨rfl, Below.refl _ _⟩
  · have V := Lib.hid (show decide (n0 = 4 ∨ n0 = 16) = false by simpa using hval)
    clear hval hn0 hn1 hn2
    go_enter Tryd.func5, Tryd.ntmps5
    go_wp2_with fail
    refine (valid_any _ _ _ _ false V.out).mono ?_
    rintro e w0 ⟨rfl, rfl⟩
    go_wp2
    go_ret
    exact ⟨rfl, Below.refl _ _⟩

set_option maxHeartbeats 1000000 in
theorem FnMasksNested_ok (A : Option Addr) (c : Nat) (x : List UInt8) (a b : Nat) (w : World) (hv : V4 w) (hx : x.length = 4) (hab : a ≤ b) (hb32 : b ≤ 32) (ha : Rd w A x) :
    Calls Tryd.prog 7 #[.slice A 4 c, .int .i64 (a : Int), .int .i64 (b : Int)] w fun e w' => e = .returned (.bool true) ∧ Below w.heap.size w w' := by
  have HX := Lib.hid hx
  have t1 : decide ((a : Int) < 0) = false := by simp
  have t2 : decide ((b : Int) < (a : Int)) = false := by simp; omega
  have t2' : decide (b < a) = false := by simp; omega
  have t3 : decide ((32 : Int) < (b : Int)) = false := by simp; omega
  have LA := Lib.hid (cidr_length 4 a)
  have LB := Lib.hid (cidr_length 4 b)
  have E1 := Lib.hid (cidr_and 4 a b hab)
  have LAB := Lib.hid (show (andL (cidr 4 a) (cidr 4 b)).length = 4 by rw [cidr_and 4 a b hab, cidr_length])
  have LP := Lib.hid (andL_len hx (cidr_length 4 b))
  have LQ := Lib.hid (andL_len hx (cidr_length 4 a))
  have T1 := Lib.hid (maskL_same (hx.trans (cidr_length 4 b).symm))
  have T2 := Lib.hid (show maskL (andL x (cidr 4 b)) (cidr 4 a) = some (andL x (cidr 4 a)) by rw [maskL_same ((andL_len hx (cidr_length 4 b)).trans (cidr_length 4 a).symm), andL_assoc, cidr_and' 4 a b hab])
  have T3 := Lib.hid (maskL_same (hx.trans (cidr_length 4 a).symm))
  clear hx
  go_enter Tryd.func7, Tryd.ntmps7
  go_wp2_with fail
  refine (implCIDR_ok a 4 _ (.inl rfl) (by omega) _ _ rfl rfl).mono ?_
  rintro e w1 ⟨A1, n1, c1, rfl, hn1, hown1, hb1⟩
  obtain rfl : n1 = 4 := by rw [← hn1]; exact LA.out
  clear hn1
  go_wp2_with fail
  refine (implCIDR_ok b 4 _ (.inl rfl) (by omega) _ _ rfl rfl).mono ?_
  rintro e w2 ⟨A2, n2, c2, rfl, hn2, hown2, hb2⟩
  obtain rfl : n2 = 4 := by rw [← hn2]; exact LB.out
  clear hn2
  have TB2 := (hb1).trans ((hb2).mono (hb1).size)
  go_wp2_with fail
  refine (specAnd_any _ _ _ _ _ _ (cidr 4 a) (cidr 4 b) _ LA.out LB.out (by decide) (by exact (Rd.of_own (xs := cidr 4 a) hown1).below hb2) (by exact Rd.of_own (xs := cidr 4 b) hown2) (by decide)).mono ?_
  rintro e w3 ⟨A3, n3, c3, rfl, hn3, hown3, hb3⟩
  obtain rfl : n3 = 4 := by rw [← hn3]; exact LAB.out
  clear hn3
  have TB3 := (TB2).trans ((hb3).mono (TB2).size)
  go_wp2_with fail
  refine (same_any _ _ _ _ _ _ (andL (cidr 4 a) (cidr 4 b)) (cidr 4 a) _ LAB.out LA.out (by exact Rd.of_own (xs := andL (cidr 4 a) (cidr 4 b)) hown3) (by exact ((Rd.of_own (xs := cidr 4 a) hown1).below hb2).below hb3) (by decide) true (eqb_true E1.out)).mono ?_
  rintro e w4 ⟨rfl, k4, rfl⟩
  have TB4 := below_drewN TB3 k4
  go_wp2_with fail
  refine (implMask_any _ _ _ _ _ _ x (cidr 4 b) _ (by exact ((((hv).below hb1).below hb2).below hb3).drewN _) HX.out LB.out (by exact ((((ha).below hb1).below hb2).below hb3).drewN _) (by exact ((Rd.of_own (xs := cidr 4 b) hown2).below hb3).drewN _) (by decide) (by decide)).mono ?_
  rintro e w5 ⟨A5, n5, c5, rfl, hn5, hown5, hb5⟩
  rw [T1.out] at hn5 hown5 ⊢
  obtain rfl : n5 = 4 := by rw [← hn5]; exact LP.out
  clear hn5
  have TB5 := (TB4).trans ((hb5).mono (TB4).size)
  go_wp2_with fail
  refine (implMask_any _ _ _ _ _ _ (andL x (cidr 4 b)) (cidr 4 a) _ (by exact (((((hv).below hb1).below hb2).below hb3).drewN _).below hb5) LP.out LA.out (by exact Rd.of_own (xs := andL x (cidr 4 b)) hown5) (by exact ((((Rd.of_own (xs := cidr 4 a) hown1).below hb2).below hb3).drewN _).below hb5) (by decide) (by decide)).mono ?_
  rintro e w6 ⟨A6, n6, c6, rfl, hn6, hown6, hb6⟩
  rw [T2.out] at hn6 hown6 ⊢
  obtain rfl : n6 = 4 := by rw [← hn6]; exact LQ.out
  clear hn6
  have TB6 := (TB5).trans ((hb6).mono (TB5).size)
  go_wp2_with fail
  refine (implMask_any _ _ _ _ _ _ x (cidr 4 a) _ (by exact ((((((hv).below hb1).below hb2).below hb3).drewN _).below hb5).below hb6) HX.out LA.out (by exact ((((((ha).below hb1).below hb2).below hb3).drewN _).below hb5).below hb6) (by exact (((((Rd.of_own (xs := cidr 4 a) hown1).below hb2).below hb3).drewN _).below hb5).below hb6) (by decide) (by decide)).mono ?_
  rintro e w7 ⟨A7, n7, c7, rfl, hn7, hown7, hb7⟩
  rw [T3.out] at hn7 hown7 ⊢
  obtain rfl : n7 = 4 := by rw [← hn7]; exact LQ.out
  clear hn7
  have TB7 := (TB6).trans ((hb7).mono (TB6).size)
  go_wp2_with fail
  refine (same_any _ _ _ _ _ _ (andL x (cidr 4 a)) (andL x (cidr 4 a)) _ LQ.out LQ.out (by exact (Rd.of_own (xs := andL x (cidr 4 a)) hown6).below hb7) (by exact Rd.of_own (xs := andL x (cidr 4 a)) hown7) (by decide) true (eqb_true rfl)).mono ?_
  rintro e w8 ⟨rfl, k8, rfl⟩
  have TB8 := below_drewN TB7 k8
  go_wp2
  go_ret
  exact ⟨rfl, TB8⟩

set_option maxHeartbeats 400000 in
theorem walk_FnMasksNested (A0 : Option Addr) (n0 c0 : Nat) (x0 : List UInt8) (a b : Int) (w : World) (hn0 : x0.length = n0) (hc0 : n0 ≤ c0) (hs0 : c0 ≤ 140737488351232) (rd0 : Rd w A0 x0) (wa : (Lit.int .i64 a).wf = true) (wb : (Lit.int .i64 b).wf = true) (hv : V4 w) :
    Calls Tryd.prog 7 #[.slice A0 n0 c0, .int .i64 a, .int .i64 b] w fun e w' => e = .returned (.bool true) ∧ Below w.heap.size w w' := by
  by_cases h4 : n0 = 4
  · subst h4
    by_cases h1 : a < 0
    · have t1 : decide (a < 0) = true := by simpa using h1
      clear h1 hn0
      go_enter Tryd.func7, Tryd.ntmps7
      go_wp2
      go_ret
      exact ⟨rfl, Below.refl _ _⟩
    · have t1 : decide (a < 0) = false := by simpa using h1
      by_cases h2 : b < a
      · have t2 : decide (b < a) = true := by simpa using h2
        clear h1 h2 hn0
        go_enter Tryd.func7, Tryd.ntmps7
        go_wp2
        go_ret
        exact ⟨rfl, Below.refl _ _⟩
      · have t2 : decide (b < a) = false := by simpa using h2
        by_cases h3 : 32 < b
        · have t3 : decide (32 < b) = true := by simpa using h3
          clear h1 h2 h3 hn0
          go_enter Tryd.func7, Tryd.ntmps7
          go_wp2
          go_ret
          exact ⟨rfl, Below.refl _ _⟩
        · obtain ⟨i, rfl⟩ := Int.eq_ofNat_of_zero_le (show 0 ≤ a by omega)
          obtain ⟨j, rfl⟩ := Int.eq_ofNat_of_zero_le (show 0 ≤ b by omega)
          exact FnMasksNested_ok A0 c0 x0 i j w hv hn0 (by omega) (by omega) rd0
  · have t0 : ((n0 : Int) != 4) = true := by simp; omega
    clear h4 hn0
    go_enter Tryd.func7, Tryd.ntmps7
    go_wp2
    go_ret
    exact ⟨rfl, Below.refl _ _⟩

set_option maxHeartbeats 1000000 in
theorem FnNCI_4 (A M : Option Addr) (c d : Nat) (x m : List UInt8) (w : World) (hv : V4 w) (hx : x.length = 4) (hms : m.length = 4) (hcx : 4 ≤ c) (ha : Rd w A x) (hm : Rd w M m) :
    Calls Tryd.prog 8 #[.slice A 4 c, .slice M 4 d] w fun e w' => e = .returned (.bool true) ∧ Below w.heap.size w w' := by
  have HX := Lib.hid hx
  have HM := Lib.hid hms
  have LM := Lib.hid (andL_len hx hms)
  have T1 := Lib.hid (maskL_same (hx.trans hms.symm))
  have E1 := Lib.hid (show eqb (andL x m) (andL (andL x m) m) = true from eqb_true (andL_idem x m).symm)
  have E2 := Lib.hid (show eqb (andL (andL x m) m) (andL x m) = true from eqb_true (andL_idem x m))
  have E0 := Lib.hid (show eqb (andL x m) (andL x m) = true from eqb_true rfl)
  have TI := Lib.hid (to4_four hx)
  have TX := Lib.hid (to4_four (andL_len hx hms))
  clear hx hms
  go_enter Tryd.func8, Tryd.ntmps8
  go_wp2_with fail
  refine (valid_any _ 4 _ _ true (by decide)).mono ?_
  rintro e w0 ⟨rfl, rfl⟩
  go_wp2_with fail
  refine (specTo4_any _ _ _ x _ HX.out (by exact hcx) (by exact ha)).mono ?_
  rintro e w1 ⟨A1, n1, c1, rfl, hn1, hown1, hb1⟩
  rw [TI.out]
  clear hn1 hown1
  go_wp2_with fail
  refine (implMask_any _ _ _ _ _ _ x m _ (by exact (hv).below hb1) HX.out HM.out (by exact (ha).below hb1) (by exact (hm).below hb1) (by decide) (by decide)).mono ?_
  rintro e w2 ⟨A2, n2, c2, rfl, hn2, hown2, hb2⟩
  rw [T1.out] at hn2 hown2 ⊢
  obtain rfl : n2 = 4 := by rw [← hn2]; exact LM.out
  clear hn2
  have TB2 := (hb1).trans ((hb2).mono (hb1).size)
  go_wp2_with fail
  refine (specTo4_any _ _ _ (andL x m) _ LM.out (by exact own_cap hown2) (by exact Rd.of_own (xs := andL x m) hown2)).mono ?_
  rintro e w3 ⟨A3, n3, c3, rfl, hn3, hown3, hb3⟩
  rw [TX.out]
  clear hn3 hown3
  have TB3 := (TB2).trans ((hb3).mono (TB2).size)
  go_wp2_with fail
  refine (implContains_4 _ _ _ _ _ _ (x) m (x) _ HX.out HM.out HX.out (by exact (((ha).below hb1).below hb2).below hb3) (by exact (((hm).below hb1).below hb2).below hb3) (by exact (((ha).below hb1).below hb2).below hb3) true E0.out).mono ?_
  rintro e w4 ⟨rfl, hb4⟩
  have TB4 := (TB3).trans ((hb4).mono (TB3).size)
  go_wp2_with fail
  refine (implContains_4 _ _ _ _ _ _ (x) m (andL x m) _ HX.out HM.out LM.out (by exact ((((ha).below hb1).below hb2).below hb3).below hb4) (by exact ((((hm).below hb1).below hb2).below hb3).below hb4) (by exact ((Rd.of_own (xs := andL x m) hown2).below hb3).below hb4) true E1.out).mono ?_
  rintro e w5 ⟨rfl, hb5⟩
  have TB5 := (TB4).trans ((hb5).mono (TB4).size)
  go_wp2_with fail
  refine (implContains_4 _ _ _ _ _ _ (andL x m) m (x) _ LM.out HM.out HX.out (by exact (((Rd.of_own (xs := andL x m) hown2).below hb3).below hb4).below hb5) (by exact (((((hm).below hb1).below hb2).below hb3).below hb4).below hb5) (by exact (((((ha).below hb1).below hb2).below hb3).below hb4).below hb5) true E2.out).mono ?_
  rintro e w6 ⟨rfl, hb6⟩
  have TB6 := (TB5).trans ((hb6).mono (TB5).size)
  go_wp2
  go_ret
  exact ⟨rfl, TB6⟩

set_option maxHeartbeats 1000000 in
theorem FnNCI_16m (A M : Option Addr) (c d : Nat) (x m : List UInt8) (w : World) (hv : V4 w) (hx : x.length = 16) (hms : m.length = 16) (hcx : 16 ≤ c) (ha : Rd w A x) (hm : Rd w M m) (hmi : x.take 12 = mp) :
    Calls Tryd.prog 8 #[.slice A 16 c, .slice M 16 d] w fun e w' => e = .returned (.bool true) ∧ Below w.heap.size w w' := by
  have HX := Lib.hid hx
  have HM := Lib.hid hms
  have LM := Lib.hid (andL_len hx hms)
  have T1 := Lib.hid (maskL_same (hx.trans hms.symm))
  have E1 := Lib.hid (show eqb (andL x m) (andL (andL x m) m) = true from eqb_true (andL_idem x m).symm)
  have E2 := Lib.hid (show eqb (andL (andL x m) m) (andL x m) = true from eqb_true (andL_idem x m))
  have E0 := Lib.hid (show eqb (andL x m) (andL x m) = true from eqb_true rfl)
  have TI := Lib.hid (to4_mapped hx hmi)
  clear hx hms hmi
  go_enter Tryd.func8, Tryd.ntmps8
  go_wp2_with fail
  refine (valid_any _ 16 _ _ true (by decide)).mono ?_
  rintro e w0 ⟨rfl, rfl⟩
  go_wp2_with fail
  refine (specTo4_any _ _ _ x _ HX.out (by exact hcx) (by exact ha)).mono ?_
  rintro e w1 ⟨A1, n1, c1, rfl, hn1, hown1, hb1⟩
  rw [TI.out]
  clear hn1 hown1
  go_wp2
  go_ret
  exact ⟨rfl, hb1⟩

set_option maxHeartbeats 1000000 in
theorem FnNCI_16x (A M : Option Addr) (c d : Nat) (x m : List UInt8) (w : World) (hv : V4 w) (hx : x.length = 16) (hms : m.length = 16) (hcx : 16 ≤ c) (ha : Rd w A x) (hm : Rd w M m) (hmi : x.take 12 ≠ mp) (hmx : (andL x m).take 12 = mp) :
    Calls Tryd.prog 8 #[.slice A 16 c, .slice M 16 d] w fun e w' => e = .returned (.bool true) ∧ Below w.heap.size w w' := by
  have HX := Lib.hid hx
  have HM := Lib.hid hms
  have LM := Lib.hid (andL_len hx hms)
  have T1 := Lib.hid (maskL_same (hx.trans hms.symm))
  have E1 := Lib.hid (show eqb (andL x m) (andL (andL x m) m) = true from eqb_true (andL_idem x m).symm)
  have E2 := Lib.hid (show eqb (andL (andL x m) m) (andL x m) = true from eqb_true (andL_idem x m))
  have E0 := Lib.hid (show eqb (andL x m) (andL x m) = true from eqb_true rfl)
  have TI := Lib.hid (to4_six hx hmi)
  have TX := Lib.hid (to4_mapped (andL_len hx hms) hmx)
  have NI := Lib.hid hmi
  have NX := Lib.hid hmx
  clear hx hms hmi hmx
  go_enter Tryd.func8, Tryd.ntmps8
  go_wp2_with fail
  refine (valid_any _ 16 _ _ true (by decide)).mono ?_
  rintro e w0 ⟨rfl, rfl⟩
  go_wp2_with fail
  refine (specTo4_any _ _ _ x _ HX.out (by exact hcx) (by exact ha)).mono ?_
  rintro e w1 ⟨A1, n1, c1, rfl, hn1, hown1, hb1⟩
  rw [TI.out]
  clear hn1 hown1
  go_wp2_with fail
  refine (implMask_any _ _ _ _ _ _ x m _ (by exact (hv).below hb1) HX.out HM.out (by exact (ha).below hb1) (by exact (hm).below hb1) (by decide) (by decide)).mono ?_
  rintro e w2 ⟨A2, n2, c2, rfl, hn2, hown2, hb2⟩
  rw [T1.out] at hn2 hown2 ⊢
  obtain rfl : n2 = 16 := by rw [← hn2]; exact LM.out
  clear hn2
  have TB2 := (hb1).trans ((hb2).mono (hb1).size)
  go_wp2_with fail
  refine (specTo4_any _ _ _ (andL x m) _ LM.out (by exact own_cap hown2) (by exact Rd.of_own (xs := andL x m) hown2)).mono ?_
  rintro e w3 ⟨A3, n3, c3, rfl, hn3, hown3, hb3⟩
  rw [TX.out]
  clear hn3 hown3
  have TB3 := (TB2).trans ((hb3).mono (TB2).size)
  go_wp2
  go_ret
  exact ⟨rfl, TB3⟩

set_option maxHeartbeats 1000000 in
theorem FnNCI_16n (A M : Option Addr) (c d : Nat) (x m : List UInt8) (w : World) (hv : V4 w) (hx : x.length = 16) (hms : m.length = 16) (hcx : 16 ≤ c) (ha : Rd w A x) (hm : Rd w M m) (hmi : x.take 12 ≠ mp) (hmx : (andL x m).take 12 ≠ mp) :
    Calls Tryd.prog 8 #[.slice A 16 c, .slice M 16 d] w fun e w' => e = .returned (.bool true) ∧ Below w.heap.size w w' := by
  have HX := Lib.hid hx
  have HM := Lib.hid hms
  have LM := Lib.hid (andL_len hx hms)
  have T1 := Lib.hid (maskL_same (hx.trans hms.symm))
  have E1 := Lib.hid (show eqb (andL x m) (andL (andL x m) m) = true from eqb_true (andL_idem x m).symm)
  have E2 := Lib.hid (show eqb (andL (andL x m) m) (andL x m) = true from eqb_true (andL_idem x m))
  have E0 := Lib.hid (show eqb (andL x m) (andL x m) = true from eqb_true rfl)
  have TI := Lib.hid (to4_six hx hmi)
  have TX := Lib.hid (to4_six (andL_len hx hms) hmx)
  have NI := Lib.hid hmi
  have NX := Lib.hid hmx
  clear hx hms hmi hmx
  go_enter Tryd.func8, Tryd.ntmps8
  go_wp2_with fail
  refine (valid_any _ 16 _ _ true (by decide)).mono ?_
  rintro e w0 ⟨rfl, rfl⟩
  go_wp2_with fail
  refine (specTo4_any _ _ _ x _ HX.out (by exact hcx) (by exact ha)).mono ?_
  rintro e w1 ⟨A1, n1, c1, rfl, hn1, hown1, hb1⟩
  rw [TI.out]
  clear hn1 hown1
  go_wp2_with fail
  refine (implMask_any _ _ _ _ _ _ x m _ (by exact (hv).below hb1) HX.out HM.out (by exact (ha).below hb1) (by exact (hm).below hb1) (by decide) (by decide)).mono ?_
  rintro e w2 ⟨A2, n2, c2, rfl, hn2, hown2, hb2⟩
  rw [T1.out] at hn2 hown2 ⊢
  obtain rfl : n2 = 16 := by rw [← hn2]; exact LM.out
  clear hn2
  have TB2 := (hb1).trans ((hb2).mono (hb1).size)
  go_wp2_with fail
  refine (specTo4_any _ _ _ (andL x m) _ LM.out (by exact own_cap hown2) (by exact Rd.of_own (xs := andL x m) hown2)).mono ?_
  rintro e w3 ⟨A3, n3, c3, rfl, hn3, hown3, hb3⟩
  rw [TX.out]
  clear hn3 hown3
  have TB3 := (TB2).trans ((hb3).mono (TB2).size)
  go_wp2_with fail
  refine (implContains_16 _ _ _ _ _ _ (x) m (x) _ HX.out HM.out HX.out NI.out NI.out (by exact (((ha).below hb1).below hb2).below hb3) (by exact (((hm).below hb1).below hb2).below hb3) (by exact (((ha).below hb1).below hb2).below hb3) true E0.out).mono ?_
  rintro e w4 ⟨rfl, hb4⟩
  have TB4 := (TB3).trans ((hb4).mono (TB3).size)
  go_wp2_with fail
  refine (implContains_16 _ _ _ _ _ _ (x) m (andL x m) _ HX.out HM.out LM.out NI.out NX.out (by exact ((((ha).below hb1).below hb2).below hb3).below hb4) (by exact ((((hm).below hb1).below hb2).below hb3).below hb4) (by exact ((Rd.of_own (xs := andL x m) hown2).below hb3).below hb4) true E1.out).mono ?_
  rintro e w5 ⟨rfl, hb5⟩
  have TB5 := (TB4).trans ((hb5).mono (TB4).size)
  go_wp2_with fail
  refine (implContains_16 _ _ _ _ _ _ (andL x m) m (x) _ LM.out HM.out HX.out NX.out NI.out (by exact (((Rd.of_own (xs := andL x m) hown2).below hb3).below hb4).below hb5) (by exact (((((hm).below hb1).below hb2).below hb3).below hb4).below hb5) (by exact (((((ha).below hb1).below hb2).below hb3).below hb4).below hb5) true E2.out).mono ?_
  rintro e w6 ⟨rfl, hb6⟩
  have TB6 := (TB5).trans ((hb6).mono (TB5).size)
  go_wp2
  go_ret
  exact ⟨rfl, TB6⟩

set_option maxHeartbeats 400000 in
theorem walk_FnNetContainsItself (A0 : Option Addr) (n0 c0 : Nat) (x0 : List UInt8) (A1 : Option Addr) (n1 c1 : Nat) (x1 : List UInt8) (w : World) (hn0 : x0.length = n0) (hc0 : n0 ≤ c0) (hs0 : c0 ≤ 140737488351232) (rd0 : Rd w A0 x0) (hn1 : x1.length = n1) (hc1 : n1 ≤ c1) (hs1 : c1 ≤ 140737488351232) (rd1 : Rd w A1 x1) (hv : V4 w) :
    Calls Tryd.prog 8 #[.slice A0 n0 c0, .slice A1 n1 c1] w fun e w' => e = .returned (.bool true) ∧ Below w.heap.size w w' := by
  by_cases hval : n0 = 4 ∨ n0 = 16
  · by_cases h1 : n1 = n0
    · subst h1
      rcases hval with rfl | rfl
      · exact FnNCI_4 A0 A1 c0 c1 x0 x1 w hv hn0 hn1 hc0 rd0 rd1
      · by_cases hmi : x0.take 12 = mp
        · exact FnNCI_16m A0 A1 c0 c1 x0 x1 w hv hn0 hn1 hc0 rd0 rd1 hmi
        · by_cases hmx : (andL x0 x1).take 12 = mp
          · exact FnNCI_16x A0 A1 c0 c1 x0 x1 w hv hn0 hn1 hc0 rd0 rd1 hmi hmx
          · exact FnNCI_16n A0 A1 c0 c1 x0 x1 w hv hn0 hn1 hc0 rd0 rd1 hmi hmx
    · have V := Lib.hid (show decide (n0 = 4 ∨ n0 = 16) = true by simpa using hval)
      have t1 : ((n1 : Int) != (n0 : Int)) = true := by simp; omega
      clear hval h1 hn0 hn1
      go_enter Tryd.func8, Tryd.ntmps8
      go_wp2_with fail
      refine (valid_any _ _ _ _ true V.out).mono ?_
      rintro e w0 ⟨rfl, rfl⟩
      go_wp2
      go_ret
      exact ⟨rfl, Below.refl _ _⟩
  · have V := Lib.hid (show decide (n0 = 4 ∨ n0 = 16) = false by simpa using hval)
    clear hval hn0 hn1
    go_enter Tryd.func8, Tryd.ntmps8
    go_wp2_with fail
    refine (valid_any _ _ _ _ false V.out).mono ?_
    rintro e w0 ⟨rfl, rfl⟩
    go_wp2
    go_ret
    exact ⟨rfl, Below.refl _ _⟩

end Go.Proofs.YtkabdfmcflkkoaaDoor
