/-
  The walk of the statement FnMaskKeeps: it returns true and changes nothing that was there.
-/
import Derived.Test.YtkabdfmcflkkoaaDoorMask
import Derived.Test.YtkabdfmcflkkoaaDoorMaskLen
import Derived.Test.YtkabdfmcflkkoaaDoorSpecTo4
import Derived.Test.YtkabdfmcflkkoaaDoorValid
namespace Go.Proofs.YtkabdfmcflkkoaaDoor
open Go.RowKit
set_option linter.unusedVariables false

theorem bit_val (a k : Nat) (ha : a < 256) : bits .and .u8 ((a : Int) / 2 ^ k) 1 = ((a.testBit k).toNat : Int) := by
  have h1 : ((a : Int) / 2 ^ k) = ((a / 2 ^ k : Nat) : Int) := by simp
  have h2 : a / 2 ^ k < 256 := Nat.lt_of_le_of_lt (Nat.div_le_self _ _) ha
  rw [h1, show (1 : Int) = ((1 : Nat) : Int) from rfl, u8_and_nat _ 1 h2 (by decide), Nat.and_one_is_mod, Nat.testBit_eq_decide_div_mod_eq]
  have : a / 2 ^ k % 2 = 0 ∨ a / 2 ^ k % 2 = 1 := by omega
  rcases this with h | h <;> simp [h]
theorem keep_bit (x : UInt8) (m t : Nat) (ht : t < 8) : (x &&& ob m).toNat.testBit (7 - t) = (x.toNat.testBit (7 - t) && decide (t < m)) := by
  rw [UInt8.toNat_and, Nat.testBit_and, ob_bit m t ht]
theorem keep_on (x : UInt8) (n k : Nat) (h : k < n) : bits .and .u8 (((x &&& ob (n - 8 * (k / 8))).toNat : Int) / 2 ^ (7 - k % 8)) 1 = bits .and .u8 ((x.toNat : Int) / 2 ^ (7 - k % 8)) 1 := by
  rw [bit_val _ _ (UInt8.toNat_lt _), bit_val _ _ x.toNat_lt, keep_bit x _ _ (by omega)]
  rw [show decide (k % 8 < n - 8 * (k / 8)) = true by simp; omega, Bool.and_true]
theorem keep_off (x : UInt8) (n k : Nat) (h : n ≤ k) : bits .and .u8 (((x &&& ob (n - 8 * (k / 8))).toNat : Int) / 2 ^ (7 - k % 8)) 1 = 0 := by
  rw [bit_val _ _ (UInt8.toNat_lt _), keep_bit x _ _ (by omega)]
  rw [show decide (k % 8 < n - 8 * (k / 8)) = false by simp; omega, Bool.and_false]
  rfl

set_option maxRecDepth 100000 in
set_option maxHeartbeats 1000000 in
theorem FnKeeps_4 (A : Option Addr) (c : Nat) (x : List UInt8) (n : Nat) (w : World) (hv : V4 w) (hx : x.length = 4) (hn : n ≤ 32) (hcx : 4 ≤ c) (ha : Rd w A x) :
    Calls Tryd.prog 6 #[.slice A 4 c, .int .i64 (n : Int)] w fun e w' => e = .returned (.bool true) ∧ Below w.heap.size w w' := by
  have HX := Lib.hid hx
  have t1 : decide ((n : Int) < 0) = false := by simp
  have t2 : decide ((32 : Int) < (n : Int)) = false := by simp; omega
  have LC := Lib.hid (cidr_length 4 n)
  have LM := Lib.hid (show (andL x (cidr 4 n)).length = 4 by rw [andL_length _ _ (by rw [hx, cidr_length]; exact Nat.le_refl _), hx])
  have T1 := Lib.hid (maskL_same (hx.trans (cidr_length 4 n).symm))
  have TI := Lib.hid (to4_four hx)
  clear hx
  go_enter Tryd.func6, Tryd.ntmps6
  go_wp2_with fail
  refine (valid_any _ 4 _ _ true (by decide)).mono ?_
  rintro e w0 ⟨rfl, rfl⟩
  go_wp2_with fail
  refine (specTo4_any _ _ _ x _ HX.out hcx (by exact ha)).mono ?_
  rintro e w1 ⟨A1, n1, c1, rfl, hn1, hown1, hb1⟩
  rw [TI.out]
  clear hn1 hown1
  go_wp2_with fail
  refine (implCIDR_ok n 4 _ (.inl rfl) (by omega) _ _ rfl rfl).mono ?_
  rintro e w2 ⟨A2, n2, c2, rfl, hn2, hown2, hb2⟩
  obtain rfl : n2 = 4 := by rw [← hn2]; exact LC.out
  clear hn2
  have TB2 := (hb1).trans ((hb2).mono (hb1).size)
  go_wp2_with fail
  refine (implMask_any _ _ _ _ _ _ x (cidr 4 n) _ (by exact ((hv).below hb1).below hb2) HX.out LC.out (by exact ((ha).below hb1).below hb2) (by exact Rd.of_own (xs := cidr 4 n) hown2) (by decide) (by decide)).mono ?_
  rintro e w3 ⟨A3, n3, c3, rfl, hn3, hown3, hb3⟩
  rw [T1.out] at hn3 hown3 ⊢
  obtain rfl : n3 = 4 := by rw [← hn3]; exact LM.out
  clear hn3
  have TB3 := (TB2).trans ((hb3).mono (TB2).size)
  have rx := (((ha).below hb1).below hb2).below hb3
  have ro := Rd.of_own (xs := andL x (cidr 4 n)) hown3
  have TB := TB3
  go_wp2
  go_loopw [69] (fun i wr => ∃ k r : Nat, k ≤ 32 ∧ i = .int .i64 k ∧ wr = w3.drewN r) (fun i _ => 32 - (intOf i).toNat)
  case atStart => exact ⟨0, 0, by decide, rfl, rfl⟩
  case round =>
    obtain ⟨k, r, hk, rfl, rfl⟩ := hrel
    by_cases hlt : k < 32
    · have hkl : k / 8 < 4 := by omega
      have l1 : k / 8 < x.length := by rw [HX.out]; exact hkl
      have l2 : k / 8 < (andL x (cidr 4 n)).length := by rw [LM.out]; exact hkl
      obtain ⟨b1, o1, e1, _, q1⟩ := rx.at_ l1
      obtain ⟨b2, o2, e2, _, q2⟩ := ro.at_ l2
      subst e1
      subst e2
      have g1 := q1 (k / 8) l1
      have g2 := q2 (k / 8) l2
      clear q1 q2
      rw [andL_get x (cidr 4 n) (k / 8) l1 (by rw [LC.out]; exact hkl), cidr_get 4 n (k / 8) hkl] at g2
      generalize x[k / 8] = X at g1 g2
      have hX : X.toNat < 256 := X.toNat_lt
      have hY : (X &&& ob (n - 8 * (k / 8))).toNat < 256 := UInt8.toNat_lt _
      by_cases hkn : k < n
      · have f1 := keep_on X n k hkn
        generalize (X &&& ob (n - 8 * (k / 8))) = Y at g2 f1 hY
        have F1 := Lib.hid (show (bits .and .u8 ((Y.toNat : Int) / 2 ^ (7 - k % 8)) 1 != bits .and .u8 ((X.toNat : Int) / 2 ^ (7 - k % 8)) 1) = false by rw [f1]; simp)
        clear f1
        have s1 : decide ((k : Int) < (n : Int)) = true := by simp; omega
        have s2 : decide ((n : Int) ≤ (k : Int)) = false := by simp; omega
        have s1' : decide (k < n) = true := by simp; omega
        have s2' : decide (n ≤ k) = false := by simp; omega
        go_wp2
        go_quiet (fail)
        have f1 := F1.out
        go_wp2
        go_roundw
        case rel => exact ⟨k + 1, _, by omega, by go_num, rfl⟩
        case measure => simp [intOf]; omega
      · have f1 := keep_off X n k (by omega)
        generalize (X &&& ob (n - 8 * (k / 8))) = Y at g2 f1 hY
        have F1 := Lib.hid (show (bits .and .u8 ((Y.toNat : Int) / 2 ^ (7 - k % 8)) 1 != 0) = false by rw [f1]; rfl)
        clear f1
        have s1 : decide ((k : Int) < (n : Int)) = false := by simp; omega
        have s2 : decide ((n : Int) ≤ (k : Int)) = true := by simp; omega
        have s1' : decide (k < n) = false := by simp; omega
        have s2' : decide (n ≤ k) = true := by simp; omega
        go_wp2
        go_quiet (fail)
        have f1 := F1.out
        go_wp2
        go_roundw
        case rel => exact ⟨k + 1, _, by omega, by go_num, rfl⟩
        case measure => simp [intOf]; omega
    · go_wp2
      go_ret
      exact ⟨rfl, below_drewN TB _⟩

set_option maxRecDepth 100000 in
set_option maxHeartbeats 1000000 in
theorem FnKeeps_16m (A : Option Addr) (c : Nat) (x : List UInt8) (n : Nat) (w : World) (hv : V4 w) (hx : x.length = 16) (hn : n ≤ 128) (hcx : 16 ≤ c) (ha : Rd w A x) (hmi : x.take 12 = mp) :
    Calls Tryd.prog 6 #[.slice A 16 c, .int .i64 (n : Int)] w fun e w' => e = .returned (.bool true) ∧ Below w.heap.size w w' := by
  have HX := Lib.hid hx
  have t1 : decide ((n : Int) < 0) = false := by simp
  have t2 : decide ((128 : Int) < (n : Int)) = false := by simp; omega
  have LC := Lib.hid (cidr_length 16 n)
  have LM := Lib.hid (show (andL x (cidr 16 n)).length = 16 by rw [andL_length _ _ (by rw [hx, cidr_length]; exact Nat.le_refl _), hx])
  have T1 := Lib.hid (maskL_same (hx.trans (cidr_length 16 n).symm))
  have TI := Lib.hid (to4_mapped hx hmi)
  clear hx hmi
  go_enter Tryd.func6, Tryd.ntmps6
  go_wp2_with fail
  refine (valid_any _ 16 _ _ true (by decide)).mono ?_
  rintro e w0 ⟨rfl, rfl⟩
  go_wp2_with fail
  refine (specTo4_any _ _ _ x _ HX.out hcx (by exact ha)).mono ?_
  rintro e w1 ⟨A1, n1, c1, rfl, hn1, hown1, hb1⟩
  rw [TI.out]
  clear hn1 hown1
  go_wp2
  go_ret
  exact ⟨rfl, hb1⟩

set_option maxRecDepth 100000 in
set_option maxHeartbeats 1000000 in
theorem FnKeeps_16n (A : Option Addr) (c : Nat) (x : List UInt8) (n : Nat) (w : World) (hv : V4 w) (hx : x.length = 16) (hn : n ≤ 128) (hcx : 16 ≤ c) (ha : Rd w A x) (hmi : x.take 12 ≠ mp) :
    Calls Tryd.prog 6 #[.slice A 16 c, .int .i64 (n : Int)] w fun e w' => e = .returned (.bool true) ∧ Below w.heap.size w w' := by
  have HX := Lib.hid hx
  have t1 : decide ((n : Int) < 0) = false := by simp
  have t2 : decide ((128 : Int) < (n : Int)) = false := by simp; omega
  have LC := Lib.hid (cidr_length 16 n)
  have LM := Lib.hid (show (andL x (cidr 16 n)).length = 16 by rw [andL_length _ _ (by rw [hx, cidr_length]; exact Nat.le_refl _), hx])
  have T1 := Lib.hid (maskL_same (hx.trans (cidr_length 16 n).symm))
  have TI := Lib.hid (to4_six hx hmi)
  clear hx hmi
  go_enter Tryd.func6, Tryd.ntmps6
  go_wp2_with fail
  refine (valid_any _ 16 _ _ true (by decide)).mono ?_
  rintro e w0 ⟨rfl, rfl⟩
  go_wp2_with fail
  refine (specTo4_any _ _ _ x _ HX.out hcx (by exact ha)).mono ?_
  rintro e w1 ⟨A1, n1, c1, rfl, hn1, hown1, hb1⟩
  rw [TI.out]
  clear hn1 hown1
  go_wp2_with fail
  refine (implCIDR_ok n 16 _ (.inr rfl) (by omega) _ _ rfl rfl).mono ?_
  rintro e w2 ⟨A2, n2, c2, rfl, hn2, hown2, hb2⟩
  obtain rfl : n2 = 16 := by rw [← hn2]; exact LC.out
  clear hn2
  have TB2 := (hb1).trans ((hb2).mono (hb1).size)
  go_wp2_with fail
  refine (implMask_any _ _ _ _ _ _ x (cidr 16 n) _ (by exact ((hv).below hb1).below hb2) HX.out LC.out (by exact ((ha).below hb1).below hb2) (by exact Rd.of_own (xs := cidr 16 n) hown2) (by decide) (by decide)).mono ?_
  rintro e w3 ⟨A3, n3, c3, rfl, hn3, hown3, hb3⟩
  rw [T1.out] at hn3 hown3 ⊢
  obtain rfl : n3 = 16 := by rw [← hn3]; exact LM.out
  clear hn3
  have TB3 := (TB2).trans ((hb3).mono (TB2).size)
  have rx := (((ha).below hb1).below hb2).below hb3
  have ro := Rd.of_own (xs := andL x (cidr 16 n)) hown3
  have TB := TB3
  go_wp2
  go_loopw [69] (fun i wr => ∃ k r : Nat, k ≤ 128 ∧ i = .int .i64 k ∧ wr = w3.drewN r) (fun i _ => 128 - (intOf i).toNat)
  case atStart => exact ⟨0, 0, by decide, rfl, rfl⟩
  case round =>
    obtain ⟨k, r, hk, rfl, rfl⟩ := hrel
    by_cases hlt : k < 128
    · have hkl : k / 8 < 16 := by omega
      have l1 : k / 8 < x.length := by rw [HX.out]; exact hkl
      have l2 : k / 8 < (andL x (cidr 16 n)).length := by rw [LM.out]; exact hkl
      obtain ⟨b1, o1, e1, _, q1⟩ := rx.at_ l1
      obtain ⟨b2, o2, e2, _, q2⟩ := ro.at_ l2
      subst e1
      subst e2
      have g1 := q1 (k / 8) l1
      have g2 := q2 (k / 8) l2
      clear q1 q2
      rw [andL_get x (cidr 16 n) (k / 8) l1 (by rw [LC.out]; exact hkl), cidr_get 16 n (k / 8) hkl] at g2
      generalize x[k / 8] = X at g1 g2
      have hX : X.toNat < 256 := X.toNat_lt
      have hY : (X &&& ob (n - 8 * (k / 8))).toNat < 256 := UInt8.toNat_lt _
      by_cases hkn : k < n
      · have f1 := keep_on X n k hkn
        generalize (X &&& ob (n - 8 * (k / 8))) = Y at g2 f1 hY
        have F1 := Lib.hid (show (bits .and .u8 ((Y.toNat : Int) / 2 ^ (7 - k % 8)) 1 != bits .and .u8 ((X.toNat : Int) / 2 ^ (7 - k % 8)) 1) = false by rw [f1]; simp)
        clear f1
        have s1 : decide ((k : Int) < (n : Int)) = true := by simp; omega
        have s2 : decide ((n : Int) ≤ (k : Int)) = false := by simp; omega
        have s1' : decide (k < n) = true := by simp; omega
        have s2' : decide (n ≤ k) = false := by simp; omega
        go_wp2
        go_quiet (fail)
        have f1 := F1.out
        go_wp2
        go_roundw
        case rel => exact ⟨k + 1, _, by omega, by go_num, rfl⟩
        case measure => simp [intOf]; omega
      · have f1 := keep_off X n k (by omega)
        generalize (X &&& ob (n - 8 * (k / 8))) = Y at g2 f1 hY
        have F1 := Lib.hid (show (bits .and .u8 ((Y.toNat : Int) / 2 ^ (7 - k % 8)) 1 != 0) = false by rw [f1]; rfl)
        clear f1
        have s1 : decide ((k : Int) < (n : Int)) = false := by simp; omega
        have s2 : decide ((n : Int) ≤ (k : Int)) = true := by simp; omega
        have s1' : decide (k < n) = false := by simp; omega
        have s2' : decide (n ≤ k) = true := by simp; omega
        go_wp2
        go_quiet (fail)
        have f1 := F1.out
        go_wp2
        go_roundw
        case rel => exact ⟨k + 1, _, by omega, by go_num, rfl⟩
        case measure => simp [intOf]; omega
    · go_wp2
      go_ret
      exact ⟨rfl, below_drewN TB _⟩

set_option maxHeartbeats 400000 in
theorem walk_FnMaskKeeps (A0 : Option Addr) (n0 c0 : Nat) (x0 : List UInt8) (o : Int) (w : World) (hn0 : x0.length = n0) (hc0 : n0 ≤ c0) (hs0 : c0 ≤ 140737488351232) (rd0 : Rd w A0 x0) (wo : (Lit.int .i64 o).wf = true) (hv : V4 w) :
    Calls Tryd.prog 6 #[.slice A0 n0 c0, .int .i64 o] w fun e w' => e = .returned (.bool true) ∧ Below w.heap.size w w' := by
  by_cases hval : n0 = 4 ∨ n0 = 16
  · have V := Lib.hid (show decide (n0 = 4 ∨ n0 = 16) = true by simpa using hval)
    by_cases h1 : o < 0
    · have t1 : decide (o < 0) = true := by simpa using h1
      clear hval h1 hn0
      go_enter Tryd.func6, Tryd.ntmps6
      go_wp2_with fail
      refine (valid_any _ _ _ _ true V.out).mono ?_
      rintro e w0 ⟨rfl, rfl⟩
      go_wp2
      go_ret
      exact ⟨rfl, Below.refl _ _⟩
    · have t1 : decide (o < 0) = false := by simpa using h1
      by_cases h2 : 8 * (n0 : Int) < o
      · have t2 : decide (8 * (n0 : Int) < o) = true := by simpa using h2
        clear hval hn0
        go_enter Tryd.func6, Tryd.ntmps6
        go_wp2_with fail
        refine (valid_any _ _ _ _ true V.out).mono ?_
        rintro e w0 ⟨rfl, rfl⟩
        go_wp2
        go_ret
        exact ⟨rfl, Below.refl _ _⟩
      · obtain ⟨i, rfl⟩ := Int.eq_ofNat_of_zero_le (show 0 ≤ o by omega)
        rcases hval with rfl | rfl
        · exact FnKeeps_4 A0 c0 x0 i w hv hn0 (by omega) hc0 rd0
        · by_cases hmi : x0.take 12 = mp
          · exact FnKeeps_16m A0 c0 x0 i w hv hn0 (by omega) hc0 rd0 hmi
          · exact FnKeeps_16n A0 c0 x0 i w hv hn0 (by omega) hc0 rd0 hmi
  · have V := Lib.hid (show decide (n0 = 4 ∨ n0 = 16) = false by simpa using hval)
    clear hval hn0
    go_enter Tryd.func6, Tryd.ntmps6
    go_wp2_with fail
    refine (valid_any _ _ _ _ false V.out).mono ?_
    rintro e w0 ⟨rfl, rfl⟩
    go_wp2
    go_ret
    exact ⟨rfl, Below.refl _ _⟩
end Go.Proofs.YtkabdfmcflkkoaaDoor
