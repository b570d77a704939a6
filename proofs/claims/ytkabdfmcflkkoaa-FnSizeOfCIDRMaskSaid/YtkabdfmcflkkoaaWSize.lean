/-
  The walks of the statements FnMaskSize, FnCIDRMaskOfSize and FnSizeOfCIDRMask: they return true and change nothing that was there.
-/
import Derived.Test.YtkabdfmcflkkoaaSize
import Derived.Test.YtkabdfmcflkkoaaValid
namespace Go.Proofs.Ytkabdfmcflkkoaa
open Go.RowKit
set_option linter.unusedVariables false

set_option maxHeartbeats 400000 in
theorem walk_FnMaskSize (A : Option Addr) (n c : Nat) (xs : List UInt8) (w : World) (hn : xs.length = n) (hc : n ≤ c) (hs : c ≤ 140737488351232) (ha : Rd w A xs) :
    Calls Try.prog 5 #[.slice A n c] w fun e w' => e = .returned (.bool true) ∧ Below w.heap.size w w' := by
  subst hn
  go_enter Try.func5, Try.ntmps5
  go_wp2_with fail
  refine (specSize_any _ _ _ xs _ rfl (by exact ha) (by omega)).mono ?_
  rintro e w1 ⟨rfl, ⟨k, hk, hx, rfl⟩ | ⟨hx, rfl⟩⟩
  · have HX := Lib.hid hx
    clear hx
    go_wp2_with fail
    refine (implMaskSize_any _ _ _ xs _ rfl (by exact ha) (by omega)).mono ?_
    rintro e w2 ⟨hb2, ⟨k2, hk2, hx2, rfl⟩ | ⟨hx2, rfl⟩⟩
    · obtain rfl : k = k2 := cidr_inj hk hk2 (HX.out.symm.trans hx2)
      clear hx2
      have t1 : (((xs.length : Int) * 8) == (8 * (xs.length : Int))) = true := by simp; omega
      go_wp2
      go_ret
      exact ⟨rfl, hb2⟩
    · exact absurd HX.out (hx2 k)
  · have HX := Lib.hid hx
    clear hx
    go_wp2_with fail
    refine (implMaskSize_any _ _ _ xs _ rfl (by exact ha) (by omega)).mono ?_
    rintro e w2 ⟨hb2, ⟨k2, hk2, hx2, rfl⟩ | ⟨hx2, rfl⟩⟩
    · exact absurd hx2 (HX.out k2)
    · clear hx2
      go_wp2
      go_ret
      exact ⟨rfl, hb2⟩

set_option maxHeartbeats 400000 in
theorem walk_FnCIDRMaskOfSize (A : Option Addr) (n c : Nat) (xs : List UInt8) (w : World) (hn : xs.length = n) (hc : n ≤ c) (hs : c ≤ 140737488351232) (ha : Rd w A xs) :
    Calls Try.prog 6 #[.slice A n c] w fun e w' => e = .returned (.bool true) ∧ Below w.heap.size w w' := by
  subst hn
  by_cases hv : xs.length = 4 ∨ xs.length = 16
  · have HV := Lib.hid (show decide (xs.length = 4 ∨ xs.length = 16) = true by simpa using hv)
    have HL := Lib.hid hv
    have hpos : 0 < xs.length := by omega
    clear hv
    go_enter Try.func6, Try.ntmps6
    go_wp2_with fail
    refine (valid_any _ _ _ _ true HV.out).mono ?_
    rintro e w0 ⟨rfl, rfl⟩
    go_wp2_with fail
    refine (implMaskSize_any _ _ _ xs _ rfl (by exact ha) (by omega)).mono ?_
    rintro e w1 ⟨hb1, ⟨k, hk, hx, rfl⟩ | ⟨hx, rfl⟩⟩
    · have HX := Lib.hid hx
      clear hx
      have t1 : (((xs.length : Int) * 8) == 0) = false := by rw [beq_eq_false_iff_ne]; omega
      go_wp2_with fail
      refine (implCIDR_ok k xs.length _ HL.out hk (k : Int) ((xs.length : Int) * 8) rfl (by omega)).mono ?_
      rintro e w2 ⟨A2, n2, c2, rfl, hn2, hown2, hb2⟩
      have HN2 := Lib.hid (show (cidr xs.length k).length = n2 from hn2)
      clear hn2
      go_wp2_with fail
      refine (same_any _ _ _ _ _ _ (cidr xs.length k) xs _ HN2.out rfl (by exact Rd.of_own (xs := cidr xs.length k) hown2) (by exact (ha.below hb1).below hb2) (by rw [← HN2.out, cidr_length]; omega) true (eqb_true HX.out.symm)).mono ?_
      rintro e w3 ⟨rfl, k3, rfl⟩
      go_wp2
      go_ret
      exact ⟨rfl, below_drewN (hb1.trans (hb2.mono hb1.size)) _⟩
    · have HX := Lib.hid hx
      clear hx
      go_wp2_with fail
      refine (specSize_any _ _ _ xs _ rfl (by exact ha.below hb1) (by omega)).mono ?_
      rintro e w2 ⟨rfl, ⟨k, hk, hx2, rfl⟩ | ⟨hx2, rfl⟩⟩
      · exact absurd hx2 (HX.out k)
      · clear hx2
        go_wp2
        go_ret
        exact ⟨rfl, hb1⟩
  · have HV := Lib.hid (show decide (xs.length = 4 ∨ xs.length = 16) = false by simpa using hv)
    clear hv
    go_enter Try.func6, Try.ntmps6
    go_wp2_with fail
    refine (valid_any _ _ _ _ false HV.out).mono ?_
    rintro e w0 ⟨rfl, rfl⟩
    go_wp2
    go_ret
    exact ⟨rfl, Below.refl _ _⟩

set_option maxHeartbeats 400000 in
theorem FnSizeOf_4 (n : Nat) (w : World) (hn : n ≤ 32) :
    Calls Try.prog 7 #[.int .i64 (n : Int), .int .i64 32] w fun e w' => e = .returned (.bool true) ∧ Below w.heap.size w w' := by
  have t1 : decide ((n : Int) < 0) = false := by simp
  have t2 : decide ((32 : Int) < (n : Int)) = false := by simp; omega
  have HL := Lib.hid (cidr_length 4 n)
  go_enter Try.func7, Try.ntmps7
  go_wp2_with fail
  refine (implCIDR_ok n 4 _ (.inl rfl) (by omega) _ _ rfl rfl).mono ?_
  rintro e w1 ⟨A1, n1, c1, rfl, hn1, hown1, hb1⟩
  obtain rfl : n1 = 4 := by rw [← hn1]; exact HL.out
  clear hn1
  go_wp2_with fail
  refine (implMaskSize_any _ _ _ (cidr 4 n) _ HL.out (by exact Rd.of_own (xs := cidr 4 n) hown1) (by decide)).mono ?_
  rintro e w2 ⟨hb2, ⟨k2, hk2, hx2, rfl⟩ | ⟨hx2, rfl⟩⟩
  · rw [HL.out] at hk2 hx2 ⊢
    obtain rfl : n = k2 := cidr_inj (by omega) hk2 hx2
    clear hx2 hk2
    go_wp2
    go_ret
    exact ⟨rfl, hb1.trans (hb2.mono hb1.size)⟩
  · rw [HL.out] at hx2
    exact absurd rfl (hx2 n)

set_option maxHeartbeats 400000 in
theorem FnSizeOf_16 (n : Nat) (w : World) (hn : n ≤ 128) :
    Calls Try.prog 7 #[.int .i64 (n : Int), .int .i64 128] w fun e w' => e = .returned (.bool true) ∧ Below w.heap.size w w' := by
  have t1 : decide ((n : Int) < 0) = false := by simp
  have t2 : decide ((128 : Int) < (n : Int)) = false := by simp; omega
  have HL := Lib.hid (cidr_length 16 n)
  go_enter Try.func7, Try.ntmps7
  go_wp2_with fail
  refine (implCIDR_ok n 16 _ (.inr rfl) (by omega) _ _ rfl rfl).mono ?_
  rintro e w1 ⟨A1, n1, c1, rfl, hn1, hown1, hb1⟩
  obtain rfl : n1 = 16 := by rw [← hn1]; exact HL.out
  clear hn1
  go_wp2_with fail
  refine (implMaskSize_any _ _ _ (cidr 16 n) _ HL.out (by exact Rd.of_own (xs := cidr 16 n) hown1) (by decide)).mono ?_
  rintro e w2 ⟨hb2, ⟨k2, hk2, hx2, rfl⟩ | ⟨hx2, rfl⟩⟩
  · rw [HL.out] at hk2 hx2 ⊢
    obtain rfl : n = k2 := cidr_inj (by omega) hk2 hx2
    clear hx2 hk2
    go_wp2
    go_ret
    exact ⟨rfl, hb1.trans (hb2.mono hb1.size)⟩
  · rw [HL.out] at hx2
    exact absurd rfl (hx2 n)

set_option maxHeartbeats 400000 in
theorem FnSizeOf_no (o b : Int) (w : World) (h : (b ≠ 32 ∧ b ≠ 128) ∨ o < 0 ∨ b < o) (wo : (Lit.int .i64 o).wf = true) (wb : (Lit.int .i64 b).wf = true) :
    Calls Try.prog 7 #[.int .i64 o, .int .i64 b] w fun e w' => e = .returned (.bool true) ∧ Below w.heap.size w w' := by
  by_cases h1 : b = 32
  · subst h1
    by_cases h2 : o < 0
    · have t1 : decide (o < 0) = true := by simpa using h2
      clear h
      go_enter Try.func7, Try.ntmps7
      go_wp2
      go_ret
      exact ⟨rfl, Below.refl _ _⟩
    · have t1 : decide (o < 0) = false := by simpa using h2
      have t2 : decide ((32 : Int) < o) = true := by simp; omega
      clear h h2
      go_enter Try.func7, Try.ntmps7
      go_wp2
      go_ret
      exact ⟨rfl, Below.refl _ _⟩
  · have t0 : (b != 32) = true := by rw [bne_iff_ne]; exact h1
    by_cases h3 : b = 128
    · subst h3
      by_cases h2 : o < 0
      · have t1 : decide (o < 0) = true := by simpa using h2
        clear h
        go_enter Try.func7, Try.ntmps7
        go_wp2
        go_ret
        exact ⟨rfl, Below.refl _ _⟩
      · have t1 : decide (o < 0) = false := by simpa using h2
        have t2 : decide ((128 : Int) < o) = true := by simp; omega
        clear h h2
        go_enter Try.func7, Try.ntmps7
        go_wp2
        go_ret
        exact ⟨rfl, Below.refl _ _⟩
    · have t3 : (b != 128) = true := by rw [bne_iff_ne]; exact h3
      clear h h1 h3
      go_enter Try.func7, Try.ntmps7
      go_wp2
      go_ret
      exact ⟨rfl, Below.refl _ _⟩

theorem walk_FnSizeOfCIDRMask (o b : Int) (w : World) (wo : (Lit.int .i64 o).wf = true) (wb : (Lit.int .i64 b).wf = true) :
    Calls Try.prog 7 #[.int .i64 o, .int .i64 b] w fun e w' => e = .returned (.bool true) ∧ Below w.heap.size w w' := by
  by_cases h : (b ≠ 32 ∧ b ≠ 128) ∨ o < 0 ∨ b < o
  · exact FnSizeOf_no o b w h wo wb
  · obtain ⟨n, rfl⟩ := Int.eq_ofNat_of_zero_le (show 0 ≤ o by omega)
    by_cases h1 : b = 32
    · subst h1; exact FnSizeOf_4 n w (by omega)
    · obtain rfl : b = 128 := by omega
      exact FnSizeOf_16 n w (by omega)
end Go.Proofs.Ytkabdfmcflkkoaa
