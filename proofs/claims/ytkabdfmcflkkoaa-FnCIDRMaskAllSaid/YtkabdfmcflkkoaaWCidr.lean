/-
  The walks of the statements FnCIDRMask and FnCIDRMaskAll: they return true and change nothing that was there.
-/
import Derived.Test.YtkabdfmcflkkoaaOnes
namespace Go.Proofs.Ytkabdfmcflkkoaa
open Go.RowKit
set_option linter.unusedVariables false

set_option maxHeartbeats 400000 in
theorem FnCIDRMask_4 (n : Nat) (w : World) (hn : n ≤ 32) :
    Calls Try.prog 3 #[.int .i64 (n : Int), .int .i64 32] w fun e w' => e = .returned (.bool true) ∧ Below w.heap.size w w' := by
  have t1 : decide ((n : Int) < 0) = false := by simp
  have t2 : decide ((32 : Int) < (n : Int)) = false := by simp; omega
  go_enter Try.func3, Try.ntmps3
  go_wp2_with fail
  refine (implCIDR_ok n 4 _ (.inl rfl) (by omega) _ _ rfl rfl).mono ?_
  rintro e w1 ⟨A1, n1, c1, rfl, hn1, hown1, hb1⟩
  obtain rfl : n1 = 4 := by rw [← hn1]; exact cidr_length 4 n
  clear hn1
  go_wp2_with fail
  refine (ones_any n 4 _ (by decide) (by omega) _ _ rfl rfl).mono ?_
  rintro e w2 ⟨A2, n2, c2, rfl, hn2, hown2, hb2⟩
  obtain rfl : n2 = 4 := by rw [← hn2]; exact cidr_length 4 n
  clear hn2
  go_wp2_with fail
  refine (same_any _ _ _ _ _ _ (cidr 4 n) (cidr 4 n) _ (cidr_length 4 n) (cidr_length 4 n) (by exact (Rd.of_own (xs := cidr 4 n) hown1).below hb2) (by exact Rd.of_own hown2) (by decide) true (eqb_true rfl)).mono ?_
  rintro e w3 ⟨rfl, k3, rfl⟩
  go_wp2
  go_ret
  exact ⟨rfl, below_drewN (hb1.trans (hb2.mono hb1.size)) _⟩

set_option maxHeartbeats 400000 in
theorem FnCIDRMask_16 (n : Nat) (w : World) (hn : n ≤ 128) :
    Calls Try.prog 3 #[.int .i64 (n : Int), .int .i64 128] w fun e w' => e = .returned (.bool true) ∧ Below w.heap.size w w' := by
  have t1 : decide ((n : Int) < 0) = false := by simp
  have t2 : decide ((128 : Int) < (n : Int)) = false := by simp; omega
  go_enter Try.func3, Try.ntmps3
  go_wp2_with fail
  refine (implCIDR_ok n 16 _ (.inr rfl) (by omega) _ _ rfl rfl).mono ?_
  rintro e w1 ⟨A1, n1, c1, rfl, hn1, hown1, hb1⟩
  obtain rfl : n1 = 16 := by rw [← hn1]; exact cidr_length 16 n
  clear hn1
  go_wp2_with fail
  refine (ones_any n 16 _ (by decide) (by omega) _ _ rfl rfl).mono ?_
  rintro e w2 ⟨A2, n2, c2, rfl, hn2, hown2, hb2⟩
  obtain rfl : n2 = 16 := by rw [← hn2]; exact cidr_length 16 n
  clear hn2
  go_wp2_with fail
  refine (same_any _ _ _ _ _ _ (cidr 16 n) (cidr 16 n) _ (cidr_length 16 n) (cidr_length 16 n) (by exact (Rd.of_own (xs := cidr 16 n) hown1).below hb2) (by exact Rd.of_own hown2) (by decide) true (eqb_true rfl)).mono ?_
  rintro e w3 ⟨rfl, k3, rfl⟩
  go_wp2
  go_ret
  exact ⟨rfl, below_drewN (hb1.trans (hb2.mono hb1.size)) _⟩

set_option maxHeartbeats 400000 in
theorem FnCIDRMask_no (o b : Int) (w : World) (h : (b ≠ 32 ∧ b ≠ 128) ∨ o < 0 ∨ b < o) (wo : (Lit.int .i64 o).wf = true) (wb : (Lit.int .i64 b).wf = true) :
    Calls Try.prog 3 #[.int .i64 o, .int .i64 b] w fun e w' => e = .returned (.bool true) ∧ Below w.heap.size w w' := by
  have H := Lib.hid h
  by_cases h1 : b = 32
  · have h1' := h1
    subst h1
    by_cases h2 : o < 0
    · have t1 : decide (o < 0) = true := by simpa using h2
      clear h h1'
      go_enter Try.func3, Try.ntmps3
      go_wp2
      go_ret
      exact ⟨rfl, Below.refl _ _⟩
    · have t1 : decide (o < 0) = false := by simpa using h2
      have t2 : decide ((32 : Int) < o) = true := by simp; omega
      clear h h2 h1'
      go_enter Try.func3, Try.ntmps3
      go_wp2
      go_ret
      exact ⟨rfl, Below.refl _ _⟩
  · have t0 : (b != 32) = true := by rw [bne_iff_ne]; exact h1
    by_cases h3 : b = 128
    · subst h3
      by_cases h2 : o < 0
      · have t1 : decide (o < 0) = true := by simpa using h2
        clear h
        go_enter Try.func3, Try.ntmps3
        go_wp2
        go_ret
        exact ⟨rfl, Below.refl _ _⟩
      · have t1 : decide (o < 0) = false := by simpa using h2
        have t2 : decide ((128 : Int) < o) = true := by simp; omega
        clear h h2
        go_enter Try.func3, Try.ntmps3
        go_wp2
        go_ret
        exact ⟨rfl, Below.refl _ _⟩
    · have t3 : (b != 128) = true := by rw [bne_iff_ne]; exact h3
      clear h h1 h3
      go_enter Try.func3, Try.ntmps3
      go_wp2
      go_ret
      exact ⟨rfl, Below.refl _ _⟩

set_option maxHeartbeats 400000 in
theorem FnCIDRMaskAll_4 (n : Nat) (w : World) (hn : n ≤ 32) :
    Calls Try.prog 4 #[.int .i64 (n : Int), .int .i64 32] w fun e w' => e = .returned (.bool true) ∧ Below w.heap.size w w' := by
  have t1 : decide ((n : Int) < 0) = false := by simp
  have t2 : decide ((32 : Int) < (n : Int)) = false := by simp; omega
  go_enter Try.func4, Try.ntmps4
  go_wp2_with fail
  refine (implCIDR_ok n 4 _ (.inl rfl) (by omega) _ _ rfl rfl).mono ?_
  rintro e w1 ⟨A1, n1, c1, rfl, hn1, hown1, hb1⟩
  obtain rfl : n1 = 4 := by rw [← hn1]; exact cidr_length 4 n
  clear hn1
  go_wp2_with fail
  refine (ones_any n 4 _ (by decide) (by omega) _ _ rfl rfl).mono ?_
  rintro e w2 ⟨A2, n2, c2, rfl, hn2, hown2, hb2⟩
  obtain rfl : n2 = 4 := by rw [← hn2]; exact cidr_length 4 n
  clear hn2
  go_wp2_with fail
  refine (same_any _ _ _ _ _ _ (cidr 4 n) (cidr 4 n) _ (cidr_length 4 n) (cidr_length 4 n) (by exact (Rd.of_own (xs := cidr 4 n) hown1).below hb2) (by exact Rd.of_own hown2) (by decide) true (eqb_true rfl)).mono ?_
  rintro e w3 ⟨rfl, k3, rfl⟩
  go_wp2
  go_ret
  exact ⟨rfl, below_drewN (hb1.trans (hb2.mono hb1.size)) _⟩

set_option maxHeartbeats 400000 in
theorem FnCIDRMaskAll_16 (n : Nat) (w : World) (hn : n ≤ 128) :
    Calls Try.prog 4 #[.int .i64 (n : Int), .int .i64 128] w fun e w' => e = .returned (.bool true) ∧ Below w.heap.size w w' := by
  have t1 : decide ((n : Int) < 0) = false := by simp
  have t2 : decide ((128 : Int) < (n : Int)) = false := by simp; omega
  go_enter Try.func4, Try.ntmps4
  go_wp2_with fail
  refine (implCIDR_ok n 16 _ (.inr rfl) (by omega) _ _ rfl rfl).mono ?_
  rintro e w1 ⟨A1, n1, c1, rfl, hn1, hown1, hb1⟩
  obtain rfl : n1 = 16 := by rw [← hn1]; exact cidr_length 16 n
  clear hn1
  go_wp2_with fail
  refine (ones_any n 16 _ (by decide) (by omega) _ _ rfl rfl).mono ?_
  rintro e w2 ⟨A2, n2, c2, rfl, hn2, hown2, hb2⟩
  obtain rfl : n2 = 16 := by rw [← hn2]; exact cidr_length 16 n
  clear hn2
  go_wp2_with fail
  refine (same_any _ _ _ _ _ _ (cidr 16 n) (cidr 16 n) _ (cidr_length 16 n) (cidr_length 16 n) (by exact (Rd.of_own (xs := cidr 16 n) hown1).below hb2) (by exact Rd.of_own hown2) (by decide) true (eqb_true rfl)).mono ?_
  rintro e w3 ⟨rfl, k3, rfl⟩
  go_wp2
  go_ret
  exact ⟨rfl, below_drewN (hb1.trans (hb2.mono hb1.size)) _⟩

set_option maxHeartbeats 400000 in
theorem FnCIDRMaskAll_no (o b : Int) (w : World) (h : (b ≠ 32 ∧ b ≠ 128) ∨ o < 0 ∨ b < o) (wo : (Lit.int .i64 o).wf = true) (wb : (Lit.int .i64 b).wf = true) :
    Calls Try.prog 4 #[.int .i64 o, .int .i64 b] w fun e w' => e = .returned (.bool true) ∧ Below w.heap.size w w' := by
  have H := Lib.hid h
  by_cases h1 : b = 32
  · have h1' := h1
    subst h1
    by_cases h2 : o < 0
    · have t1 : decide (o < 0) = true := by simpa using h2
      clear h h1'
      go_enter Try.func4, Try.ntmps4
      go_wp2_with fail
      refine (implCIDR_none _ _ _ H.out wo wb).mono ?_
      rintro e w1 ⟨A1, n1, c1, rfl, hn1, hown1, hb1⟩
      obtain rfl : n1 = 0 := hn1.symm
      clear hn1
      go_wp2
      go_ret
      exact ⟨rfl, hb1⟩
    · have t1 : decide (o < 0) = false := by simpa using h2
      have t2 : decide ((32 : Int) < o) = true := by simp; omega
      clear h h2 h1'
      go_enter Try.func4, Try.ntmps4
      go_wp2_with fail
      refine (implCIDR_none _ _ _ H.out wo wb).mono ?_
      rintro e w1 ⟨A1, n1, c1, rfl, hn1, hown1, hb1⟩
      obtain rfl : n1 = 0 := hn1.symm
      clear hn1
      go_wp2
      go_ret
      exact ⟨rfl, hb1⟩
  · have t0 : (b != 32) = true := by rw [bne_iff_ne]; exact h1
    by_cases h3 : b = 128
    · subst h3
      by_cases h2 : o < 0
      · have t1 : decide (o < 0) = true := by simpa using h2
        clear h
        go_enter Try.func4, Try.ntmps4
        go_wp2_with fail
        refine (implCIDR_none _ _ _ H.out wo wb).mono ?_
        rintro e w1 ⟨A1, n1, c1, rfl, hn1, hown1, hb1⟩
        obtain rfl : n1 = 0 := hn1.symm
        clear hn1
        go_wp2
        go_ret
        exact ⟨rfl, hb1⟩
      · have t1 : decide (o < 0) = false := by simpa using h2
        have t2 : decide ((128 : Int) < o) = true := by simp; omega
        clear h h2
        go_enter Try.func4, Try.ntmps4
        go_wp2_with fail
        refine (implCIDR_none _ _ _ H.out wo wb).mono ?_
        rintro e w1 ⟨A1, n1, c1, rfl, hn1, hown1, hb1⟩
        obtain rfl : n1 = 0 := hn1.symm
        clear hn1
        go_wp2
        go_ret
        exact ⟨rfl, hb1⟩
    · have t3 : (b != 128) = true := by rw [bne_iff_ne]; exact h3
      clear h h1 h3
      go_enter Try.func4, Try.ntmps4
      go_wp2_with fail
      refine (implCIDR_none _ _ _ H.out wo wb).mono ?_
      rintro e w1 ⟨A1, n1, c1, rfl, hn1, hown1, hb1⟩
      obtain rfl : n1 = 0 := hn1.symm
      clear hn1
      go_wp2
      go_ret
      exact ⟨rfl, hb1⟩

theorem walk_FnCIDRMask (o b : Int) (w : World) (wo : (Lit.int .i64 o).wf = true) (wb : (Lit.int .i64 b).wf = true) :
    Calls Try.prog 3 #[.int .i64 o, .int .i64 b] w fun e w' => e = .returned (.bool true) ∧ Below w.heap.size w w' := by
  by_cases h : (b ≠ 32 ∧ b ≠ 128) ∨ o < 0 ∨ b < o
  · exact FnCIDRMask_no o b w h wo wb
  · obtain ⟨n, rfl⟩ := Int.eq_ofNat_of_zero_le (show 0 ≤ o by omega)
    by_cases h1 : b = 32
    · subst h1; exact FnCIDRMask_4 n w (by omega)
    · obtain rfl : b = 128 := by omega
      exact FnCIDRMask_16 n w (by omega)

theorem walk_FnCIDRMaskAll (o b : Int) (w : World) (wo : (Lit.int .i64 o).wf = true) (wb : (Lit.int .i64 b).wf = true) :
    Calls Try.prog 4 #[.int .i64 o, .int .i64 b] w fun e w' => e = .returned (.bool true) ∧ Below w.heap.size w w' := by
  by_cases h : (b ≠ 32 ∧ b ≠ 128) ∨ o < 0 ∨ b < o
  · exact FnCIDRMaskAll_no o b w h wo wb
  · obtain ⟨n, rfl⟩ := Int.eq_ofNat_of_zero_le (show 0 ≤ o by omega)
    by_cases h1 : b = 32
    · subst h1; exact FnCIDRMaskAll_4 n w (by omega)
    · obtain rfl : b = 128 := by omega
      exact FnCIDRMaskAll_16 n w (by omega)
end Go.Proofs.Ytkabdfmcflkkoaa
