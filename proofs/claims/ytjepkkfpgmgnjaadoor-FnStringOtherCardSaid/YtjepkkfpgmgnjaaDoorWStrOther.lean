/-
  The walk of the statement FnStringOther: it returns true and changes nothing that was there.
-/
import Derived.Test.YtjepkkfpgmgnjaaDoorIPString
import Derived.Test.YtjepkkfpgmgnjaaDoorHex
import Derived.Test.YtjepkkfpgmgnjaaDoorSpecHex
import Derived.Test.YtjepkkfpgmgnjaaDoorValid
namespace Go.Proofs.YtjepkkfpgmgnjaaDoor
open Go.RowKit
set_option linter.unusedVariables false

theorem dec_head (n : Nat) (h : n < 256) : ∃ k r, k < 10 ∧ dec n = dg k :: r := by
  unfold dec
  split
  · exact ⟨n / 100, _, by omega, rfl⟩
  · split
    · exact ⟨n / 10 % 10, _, by omega, rfl⟩
    · exact ⟨n % 10, _, by omega, rfl⟩
theorem hx_head (n : Nat) (h : n < 65536) : ∃ k r, k < 16 ∧ hx n = dg k :: r := by
  unfold hx
  split
  · exact ⟨n / 4096, _, by omega, rfl⟩
  · split
    · exact ⟨n / 256 % 16, _, by omega, rfl⟩
    · split
      · exact ⟨n / 16 % 16, _, by omega, rfl⟩
      · exact ⟨n % 16, _, by omega, rfl⟩
theorem jn_head (g : Nat → Nat) (hg : ∀ i, g i < 65536) (a k : Nat) : ∃ m r, m < 16 ∧ jn g a (k + 1) = dg m :: r := by
  induction k with
  | zero =>
    obtain ⟨m, r, h1, h2⟩ := hx_head (g (a + 0)) (hg _)
    exact ⟨m, r, h1, by simp only [jn]; rw [h2]; rfl⟩
  | succ k ih =>
    obtain ⟨m, r, h1, h2⟩ := ih
    refine ⟨m, r ++ ((if k + 1 = 0 then [] else [58]) ++ hx (g (a + (k + 1)))), h1, ?_⟩
    rw [jn, h2]
    rfl
theorem long_head (g : Nat → Nat) (hg : ∀ i, g i < 65536) : ∃ m r, long g = m :: r ∧ (m = 58 ∨ ∃ k, k < 16 ∧ m = dg k) := by
  unfold long
  split
  · obtain ⟨m, r, h1, h2⟩ := jn_head g hg 0 7
    exact ⟨dg m, r, h2, .inr ⟨m, h1, rfl⟩⟩
  · rcases h : (bst g 8).1 with _ | k
    · exact ⟨58, _, rfl, .inl rfl⟩
    · obtain ⟨m, r, h1, h2⟩ := jn_head g hg 0 k
      exact ⟨dg m, _, by rw [h2]; rfl, .inr ⟨m, h1, rfl⟩⟩
theorem dot4_head (xs : List UInt8) : ∃ k r, k < 10 ∧ dot4 xs = dg k :: r := by
  obtain ⟨k, r, h1, h2⟩ := dec_head (xs.getD 0 0).toNat (UInt8.toNat_lt _)
  exact ⟨k, _, h1, by unfold dot4; rw [h2]; rfl⟩
theorem ipText_ne (xs : List UInt8) : ipText xs ≠ [] ∧ ipText xs ≠ [60, 110, 105, 108, 62] := by
  have key : ∀ k : Fin 16, dg k.val ≠ 60 := by decide
  unfold ipText
  cases to4 xs with
  | some f =>
    obtain ⟨k, r, h1, h2⟩ := dot4_head f
    simp only [h2]
    exact ⟨by simp, fun e => key ⟨k, by omega⟩ (by injection e)⟩
  | none =>
    obtain ⟨m, r, h1, h2⟩ := long_head (gr xs) (wd_lt _ _)
    simp only [h1]
    refine ⟨by simp, fun e => ?_⟩
    have hm : m = 60 := by injection e
    rcases h2 with h | ⟨k, h3, h4⟩
    · rw [h] at hm; exact absurd hm (by decide)
    · rw [h4] at hm; exact key ⟨k, h3⟩ hm

theorem implString_zero (Z : Option Addr) (cz : Nat) (w : World) :
    Calls Tryd.prog 25 #[.slice Z 0 cz] w fun e w' => e = .returned (.string ⟨#[60, 110, 105, 108, 62]⟩) ∧ Below w.heap.size w w' := by
  have hz : ∀ (A : Option Addr) (c : Nat) (w : World), Calls Tryd.prog 44 #[.slice A 0 c] w fun e w' => e = .returned (.string ⟨#[60, 110, 105, 108, 62]⟩) ∧ w = w' := by
    intro A c w
    go_enter Tryd.func44, Tryd.ntmps44
    go_wp2
    go_ret
    exact ⟨rfl, rfl⟩
  have HZ := Lib.hid hz
  clear hz
  go_enter Tryd.func25, Tryd.ntmps25
  go_wp2_with fail
  refine (plain_any _ _ _ [] _ rfl (by exact Rd.nil _ _) (by decide)).mono ?_
  rintro e w1 ⟨A1, n1, c1, rfl, hn1, hown1, hb1⟩
  obtain rfl : n1 = 0 := hn1.symm
  clear hn1
  go_wp2_with fail
  refine (HZ.out _ _ _).mono ?_
  rintro e w2 ⟨rfl, rfl⟩
  go_wp2
  go_ret
  exact ⟨rfl, hb1⟩

set_option maxHeartbeats 400000 in
theorem implString_other (Z : Option Addr) (n cz : Nat) (xs : List UInt8) (w : World) (hx : xs.length = n) (h0 : n ≠ 0) (h4 : n ≠ 4) (h16 : n ≠ 16) (ha : Rd w Z xs) (hs : n ≤ 140737488351232) :
    Calls Tryd.prog 25 #[.slice Z n cz] w fun e w' => e = .returned (.string ⟨(63 :: hex xs).toArray⟩) ∧ Below w.heap.size w w' := by
  have hz : ∀ (A : Option Addr) (c : Nat) (w : World), Rd w A xs → Calls Tryd.prog 44 #[.slice A n c] w fun e w' => e = .returned (.string ⟨(63 :: hex xs).toArray⟩) ∧ Below w.heap.size w w' := by
    intro A c w ha
    have HX := Lib.hid hx
    have t0 : ((n : Int) == 0) = false := by simp; omega
    have t4 : ((n : Int) != 4) = true := by simp; omega
    have t16 : ((n : Int) != 16) = true := by simp; omega
    have hlen : (hex xs).length ≤ 281474976702464 := by rw [hex_length, hx]; omega
    clear hx h0 h4 h16
    go_enter Tryd.func44, Tryd.ntmps44
    go_wp2_with fail
    refine (hexString_any _ _ _ xs _ HX.out (by exact ha) hs).mono ?_
    rintro e w1 ⟨rfl, hb1⟩
    go_wp2
    go_ret
    exact ⟨by simp [ba_app], hb1⟩
  have HX := Lib.hid hx
  have HZ := Lib.hid hz
  clear hz hx h0 h4 h16
  go_enter Tryd.func25, Tryd.ntmps25
  go_wp2_with fail
  refine (plain_any _ _ _ xs _ HX.out (by exact ha) (by omega)).mono ?_
  rintro e w1 ⟨A1, n1, c1, rfl, hn1, hown1, hb1⟩
  obtain rfl : n = n1 := HX.out.symm.trans hn1
  clear hn1
  go_wp2_with fail
  refine (HZ.out _ _ _ (by exact Rd.of_own hown1)).mono ?_
  rintro e w2 ⟨rfl, hb2⟩
  go_wp2
  go_ret
  exact ⟨rfl, hb1.trans (hb2.mono hb1.size)⟩

set_option maxHeartbeats 400000 in
theorem ends_cons (t : List UInt8) (c : UInt8) (w : World) (hl : t.length ≤ 281474976702464) :
    Calls Tryd.prog 26 #[.string ⟨(c :: t).toArray⟩, .string ⟨t.toArray⟩] w fun e w' => e = .returned (.bool true) ∧ w = w' := by
  have hcut : ({ data := (c :: t).toArray } : ByteArray).extract 1 (t.length + 1) = ⟨t.toArray⟩ := by
    rw [ba_cut, List.take_of_length_le (by simp)]; rfl
  go_enter Tryd.func26, Tryd.ntmps26
  go_wp2
  go_ret
  exact ⟨ret_bool (by simp), rfl⟩

set_option maxHeartbeats 1000000 in
theorem walk_FnStringOther (A : Option Addr) (n c : Nat) (xs : List UInt8) (w : World) (hn : xs.length = n) (hc : n ≤ c) (hs : c ≤ 140737488351232) (ha : Rd w A xs) (hvars : ∃ p4 p6, ZF w p4 p6) :
    Calls Tryd.prog 8 #[.slice A n c] w fun e w' => e = .returned (.bool true) ∧ Below w.heap.size w w' := by
  obtain ⟨p4, p6, hz⟩ := hvars
  have HN := Lib.hid hn
  by_cases h0 : n = 0
  · subst h0
    clear hn
    go_enter Tryd.func8, Tryd.ntmps8
    go_wp2_with fail
    refine (implString_zero _ _ _).mono ?_
    rintro e w1 ⟨rfl, hb1⟩
    go_wp2
    go_ret
    exact ⟨ret_bool (by simp), hb1⟩
  · by_cases hv : n = 4 ∨ n = 16
    · have V := Lib.hid (show decide (n = 4 ∨ n = 16) = true by simpa using hv)
      have HV := Lib.hid hv
      have t0 : ((n : Int) == 0) = false := by simp; omega
      have UU := Lib.hid (ipText_ne xs)
      clear hn hv h0
      go_enter Tryd.func8, Tryd.ntmps8
      go_wp2_with fail
      refine (implString_any _ _ _ xs p4 p6 _ hz HN.out HV.out (by exact ha)).mono ?_
      rintro e w1 ⟨rfl, hb1⟩
      have UU2 := UU.out
      clear UU
      generalize ipText xs = T at UU2
      have UU := Lib.hid UU2
      clear UU2
      go_wp2_with fail
      refine (valid_any _ _ _ _ true V.out).mono ?_
      rintro e w2 ⟨rfl, rfl⟩
      go_wp2
      · exfalso
        obtain ⟨u1, u2⟩ := UU.out
        simp_all
      · go_ret
        obtain ⟨u1, u2⟩ := UU.out
        exact ⟨ret_bool (by simp [u1, u2]), hb1⟩
    · have V := Lib.hid (show decide (n = 4 ∨ n = 16) = false by simpa using hv)
      have t0 : ((n : Int) == 0) = false := by simp; omega
      have n4 := Lib.hid (show n ≠ 4 by omega)
      have n16 := Lib.hid (show n ≠ 16 by omega)
      have n0 := Lib.hid h0
      have hlen : (hex xs).length ≤ 281474976702464 := by rw [hex_length, hn]; omega
      clear hn hv h0
      go_enter Tryd.func8, Tryd.ntmps8
      go_wp2_with fail
      refine (implString_other _ _ _ xs _ HN.out n0.out n4.out n16.out (by exact ha) (by omega)).mono ?_
      rintro e w1 ⟨rfl, hb1⟩
      go_wp2_with fail
      refine (valid_any _ _ _ _ false V.out).mono ?_
      rintro e w2 ⟨rfl, rfl⟩
      go_wp2_with fail
      refine (specHex_any _ _ _ xs _ HN.out (by exact ha.below hb1) (by omega)).mono ?_
      rintro e w3 ⟨rfl, k3, rfl⟩
      go_wp2_with fail
      refine (ends_cons (hex xs) 63 _ hlen).mono ?_
      rintro e w4 ⟨rfl, rfl⟩
      go_wp2
      go_ret
      exact ⟨rfl, below_drewN hb1 _⟩
end Go.Proofs.YtjepkkfpgmgnjaaDoor
