/-
  The walk of the law FnNetString. Condition: the lengths (2^47).
-/
import Derived.Test.YtjepkkfpgmgnjaaDoorNetStr
import Derived.Test.YtjepkkfpgmgnjaaDoorSpecTo4
import Derived.Test.YtjepkkfpgmgnjaaDoorSpecStr
import Derived.Test.YtjepkkfpgmgnjaaDoorValid
import Derived.Test.YtjepkkfpgmgnjaaDoorMixed
import Derived.Test.YtjepkkfpgmgnjaaDoorLSmall
namespace Go.Proofs.YtjepkkfpgmgnjaaDoor
open Go.RowKit
set_option linter.unusedVariables false

theorem ns_no (A : Option Addr) (n c : Nat) (xs : List UInt8) (M : Option Addr) (m d : Nat) (ms : List UInt8) (w : World) (hn : xs.length = n) (hc : n ≤ c) (ha : Rd w A xs) (hv : ¬ (n = 4 ∨ n = 16)) :
    Calls Tryd.prog 3 #[.slice A n c, .slice M m d] w fun e w' => e = .returned (.bool true) ∧ Below w.heap.size w w' := by
  have HN := Lib.hid hn
  have V := Lib.hid (show decide (n = 4 ∨ n = 16) = false by simpa using hv)
  clear hn hv
  go_enter Tryd.func3, Tryd.ntmps3
  go_wp2_with fail
  refine (specTo4_any _ _ _ xs _ HN.out hc (by exact ha)).mono ?_
  rintro e w1 ⟨A1, n1, c1, rfl, hn1, hown1, hb1⟩
  clear hn1 hown1
  generalize (to4 xs).isSome = q
  go_wp2_with fail
  refine (valid_any _ _ _ _ false V.out).mono ?_
  rintro e w2 ⟨rfl, rfl⟩
  go_wp2
  go_ret
  exact ⟨rfl, hb1⟩

theorem ns_len (A : Option Addr) (n c : Nat) (xs : List UInt8) (M : Option Addr) (m d : Nat) (ms : List UInt8) (w : World) (hn : xs.length = n) (hc : n ≤ c) (ha : Rd w A xs) (hv : n = 4 ∨ n = 16) (hm : m ≠ n) :
    Calls Tryd.prog 3 #[.slice A n c, .slice M m d] w fun e w' => e = .returned (.bool true) ∧ Below w.heap.size w w' := by
  have HN := Lib.hid hn
  have V := Lib.hid (show decide (n = 4 ∨ n = 16) = true by simpa using hv)
  have t1 : ((m : Int) != (n : Int)) = true := by simp; omega
  clear hn hv hm
  go_enter Tryd.func3, Tryd.ntmps3
  go_wp2_with fail
  refine (specTo4_any _ _ _ xs _ HN.out hc (by exact ha)).mono ?_
  rintro e w1 ⟨A1, n1, c1, rfl, hn1, hown1, hb1⟩
  clear hn1 hown1
  generalize (to4 xs).isSome = q
  go_wp2_with fail
  refine (valid_any _ _ _ _ true V.out).mono ?_
  rintro e w2 ⟨rfl, rfl⟩
  go_wp2
  go_ret
  exact ⟨rfl, hb1⟩

theorem ns_mapped (A : Option Addr) (c : Nat) (xs : List UInt8) (M : Option Addr) (d : Nat) (w : World) (hn : xs.length = 16) (hc : 16 ≤ c) (ha : Rd w A xs) (hmp : xs.take 12 = mp) :
    Calls Tryd.prog 3 #[.slice A 16 c, .slice M 16 d] w fun e w' => e = .returned (.bool true) ∧ Below w.heap.size w w' := by
  have HN := Lib.hid hn
  have HT := Lib.hid (to4_mapped hn hmp)
  have HL := Lib.hid (show (xs.drop 12).length = 4 by simp [hn])
  clear hn hmp
  go_enter Tryd.func3, Tryd.ntmps3
  go_wp2_with fail
  refine (specTo4_any _ _ _ xs _ HN.out hc (by exact ha)).mono ?_
  rintro e w1 ⟨A1, n1, c1, rfl, hn1, hown1, hb1⟩
  rw [HT.out] at hn1 hown1 ⊢
  obtain rfl : n1 = 4 := by rw [← hn1]; exact HL.out
  clear hn1 hown1
  simp only [Option.isSome_some]
  go_wp2_with fail
  refine (valid_any _ _ _ _ true rfl).mono ?_
  rintro e w2 ⟨rfl, rfl⟩
  go_wp2_with fail
  refine (mixed_any _ _ _ xs _ HN.out hc (by exact ha.below hb1)).mono ?_
  rintro e w2 ⟨⟨r, rfl⟩, hb2⟩
  rcases r with _ | _
  · go_wp2
    go_ret
    exact ⟨rfl, hb1.trans (hb2.mono hb1.size)⟩
  · go_wp2
    go_ret
    exact ⟨rfl, hb1.trans (hb2.mono hb1.size)⟩

set_option maxHeartbeats 1000000 in
theorem ns_main_4 (A : Option Addr) (c : Nat) (xs : List UInt8) (M : Option Addr) (d : Nat) (ms : List UInt8) (p4 p6 : Addr) (w : World) (hz : ZF w p4 p6) (hp : P10 w) (hn : xs.length = 4) (hc : 4 ≤ c) (ha : Rd w A xs) (hm : ms.length = 4) (rm : Rd w M ms) :
    Calls Tryd.prog 3 #[.slice A 4 c, .slice M 4 d] w fun e w' => e = .returned (.bool true) ∧ Below w.heap.size w w' := by
  have HN := Lib.hid hn
  have HM := Lib.hid hm
  have HT := Lib.hid (to4_four hn)
  clear hn hm
  go_enter Tryd.func3, Tryd.ntmps3
  go_wp2_with fail
  refine (specTo4_any _ _ _ xs _ HN.out hc (by exact ha)).mono ?_
  rintro e w1 ⟨A1, n1, c1, rfl, hn1, hown1, hb1⟩
  rw [HT.out] at hn1 hown1 ⊢
  obtain rfl : n1 = 4 := by rw [← hn1]; exact HN.out
  clear hn1 hown1
  simp only [Option.isSome_some]
  go_wp2_with fail
  refine (valid_any _ _ _ _ true rfl).mono ?_
  rintro e w2 ⟨rfl, rfl⟩
  go_wp2_with fail
  refine (mixed_any _ _ _ xs _ HN.out hc (by exact ha.below hb1)).mono ?_
  rintro e w2 ⟨⟨r, rfl⟩, hb2⟩
  have hb3 := hb1.trans (hb2.mono hb1.size)
  rcases r with _ | _
  · go_wp2_with fail
    refine (specSize_any _ _ _ ms _ HM.out (by exact rm.below hb3) (by decide)).mono ?_
    rintro e w3 ⟨rfl, ⟨k, hk, hkx, rfl⟩ | ⟨hkx, rfl⟩⟩
    · have T := Lib.hid (show NetTail ms (dec k) from .inl ⟨k, hk, hkx, rfl⟩)
      have hk2 : k < 256 := by have := HM.out; omega
      clear hk hkx
      go_wp2_with fail
      refine (specHex_any _ _ _ ms _ HM.out (by exact rm.below hb3) (by decide)).mono ?_
      rintro e w4 ⟨rfl, k4, rfl⟩
      generalize hex ms = HX
      go_wp2_with fail
      refine (lsmall_any k hk2 _).mono ?_
      rintro e w5 ⟨rfl, hb4⟩
      have hb5 := (below_drewN hb3 k4).trans (hb4.mono (below_drewN hb3 k4).size)
      generalize dec k = D at T ⊢
      go_wp2_with fail
      refine (implNetString_4 _ _ _ _ xs ms p4 p6 _ (hz.below hb5) (hp.below hb5) HN.out HM.out (by exact ha.below hb5) (by exact rm.below hb5)).mono ?_
      rintro e w6 ⟨t, ht, rfl, hb6⟩
      obtain rfl := ht.one T.out
      have hb7 := hb5.trans (hb6.mono hb5.size)
      clear ht
      go_wp2_with fail
      refine (specString_any _ _ _ xs _ HN.out (by decide) hc (by exact ha.below hb7)).mono ?_
      rintro e w7 ⟨rfl, hb8⟩
      have L1 := ipText_len xs
      have L2 := T.out.len (by rw [HM.out]; decide)
      clear T
      generalize ipText xs = X at L1 ⊢
      go_wp2
      go_ret
      exact ⟨by simp [ba_app], hb7.trans (hb8.mono hb7.size)⟩
    · have T := Lib.hid (show NetTail ms (hex ms) from .inr ⟨hkx, rfl⟩)
      clear hkx
      go_wp2_with fail
      refine (specHex_any _ _ _ ms _ HM.out (by exact rm.below hb3) (by decide)).mono ?_
      rintro e w4 ⟨rfl, k4, rfl⟩
      generalize hex ms = D at T ⊢
      have hb5 := below_drewN hb3 k4
      go_wp2_with fail
      refine (implNetString_4 _ _ _ _ xs ms p4 p6 _ (hz.below hb5) (hp.below hb5) HN.out HM.out (by exact ha.below hb5) (by exact rm.below hb5)).mono ?_
      rintro e w6 ⟨t, ht, rfl, hb6⟩
      obtain rfl := ht.one T.out
      have hb7 := hb5.trans (hb6.mono hb5.size)
      clear ht
      go_wp2_with fail
      refine (specString_any _ _ _ xs _ HN.out (by decide) hc (by exact ha.below hb7)).mono ?_
      rintro e w7 ⟨rfl, hb8⟩
      have L1 := ipText_len xs
      have L2 := T.out.len (by rw [HM.out]; decide)
      clear T
      generalize ipText xs = X at L1 ⊢
      go_wp2
      go_ret
      exact ⟨by simp [ba_app], hb7.trans (hb8.mono hb7.size)⟩
  · go_wp2
    go_ret
    exact ⟨rfl, hb3⟩

set_option maxHeartbeats 1000000 in
theorem ns_main_16 (A : Option Addr) (c : Nat) (xs : List UInt8) (M : Option Addr) (d : Nat) (ms : List UInt8) (p4 p6 : Addr) (w : World) (hz : ZF w p4 p6) (hp : P10 w) (hn : xs.length = 16) (hc : 16 ≤ c) (ha : Rd w A xs) (hmp : xs.take 12 ≠ mp) (hm : ms.length = 16) (rm : Rd w M ms) :
    Calls Tryd.prog 3 #[.slice A 16 c, .slice M 16 d] w fun e w' => e = .returned (.bool true) ∧ Below w.heap.size w w' := by
  have HN := Lib.hid hn
  have HM := Lib.hid hm
  have HT := Lib.hid (to4_six hn hmp)
  have HMX := Lib.hid hmp
  clear hmp
  clear hn hm
  go_enter Tryd.func3, Tryd.ntmps3
  go_wp2_with fail
  refine (specTo4_any _ _ _ xs _ HN.out hc (by exact ha)).mono ?_
  rintro e w1 ⟨A1, n1, c1, rfl, hn1, hown1, hb1⟩
  rw [HT.out] at hn1 hown1 ⊢
  obtain rfl : n1 = 0 := hn1.symm
  clear hn1 hown1
  simp only [Option.isSome_none]
  go_wp2_with fail
  refine (valid_any _ _ _ _ true rfl).mono ?_
  rintro e w2 ⟨rfl, rfl⟩
  go_wp2_with fail
  refine (mixed_any _ _ _ xs _ HN.out hc (by exact ha.below hb1)).mono ?_
  rintro e w2 ⟨⟨r, rfl⟩, hb2⟩
  have hb3 := hb1.trans (hb2.mono hb1.size)
  rcases r with _ | _
  · go_wp2_with fail
    refine (specSize_any _ _ _ ms _ HM.out (by exact rm.below hb3) (by decide)).mono ?_
    rintro e w3 ⟨rfl, ⟨k, hk, hkx, rfl⟩ | ⟨hkx, rfl⟩⟩
    · have T := Lib.hid (show NetTail ms (dec k) from .inl ⟨k, hk, hkx, rfl⟩)
      have hk2 : k < 256 := by have := HM.out; omega
      clear hk hkx
      go_wp2_with fail
      refine (specHex_any _ _ _ ms _ HM.out (by exact rm.below hb3) (by decide)).mono ?_
      rintro e w4 ⟨rfl, k4, rfl⟩
      generalize hex ms = HX
      go_wp2_with fail
      refine (lsmall_any k hk2 _).mono ?_
      rintro e w5 ⟨rfl, hb4⟩
      have hb5 := (below_drewN hb3 k4).trans (hb4.mono (below_drewN hb3 k4).size)
      generalize dec k = D at T ⊢
      go_wp2_with fail
      refine (implNetString_16 _ _ _ _ xs ms p4 p6 _ (hz.below hb5) (hp.below hb5) HN.out HM.out HMX.out (by exact ha.below hb5) (by exact rm.below hb5)).mono ?_
      rintro e w6 ⟨t, ht, rfl, hb6⟩
      obtain rfl := ht.one T.out
      have hb7 := hb5.trans (hb6.mono hb5.size)
      clear ht
      go_wp2_with fail
      refine (specString_any _ _ _ xs _ HN.out (by decide) hc (by exact ha.below hb7)).mono ?_
      rintro e w7 ⟨rfl, hb8⟩
      have L1 := ipText_len xs
      have L2 := T.out.len (by rw [HM.out]; decide)
      clear T
      generalize ipText xs = X at L1 ⊢
      go_wp2
      go_ret
      exact ⟨by simp [ba_app], hb7.trans (hb8.mono hb7.size)⟩
    · have T := Lib.hid (show NetTail ms (hex ms) from .inr ⟨hkx, rfl⟩)
      clear hkx
      go_wp2_with fail
      refine (specHex_any _ _ _ ms _ HM.out (by exact rm.below hb3) (by decide)).mono ?_
      rintro e w4 ⟨rfl, k4, rfl⟩
      generalize hex ms = D at T ⊢
      have hb5 := below_drewN hb3 k4
      go_wp2_with fail
      refine (implNetString_16 _ _ _ _ xs ms p4 p6 _ (hz.below hb5) (hp.below hb5) HN.out HM.out HMX.out (by exact ha.below hb5) (by exact rm.below hb5)).mono ?_
      rintro e w6 ⟨t, ht, rfl, hb6⟩
      obtain rfl := ht.one T.out
      have hb7 := hb5.trans (hb6.mono hb5.size)
      clear ht
      go_wp2_with fail
      refine (specString_any _ _ _ xs _ HN.out (by decide) hc (by exact ha.below hb7)).mono ?_
      rintro e w7 ⟨rfl, hb8⟩
      have L1 := ipText_len xs
      have L2 := T.out.len (by rw [HM.out]; decide)
      clear T
      generalize ipText xs = X at L1 ⊢
      go_wp2
      go_ret
      exact ⟨by simp [ba_app], hb7.trans (hb8.mono hb7.size)⟩
  · go_wp2
    go_ret
    exact ⟨rfl, hb3⟩

theorem walk_FnNetString (A0 : Option Addr) (n0 c0 : Nat) (x0 : List UInt8) (A1 : Option Addr) (n1 c1 : Nat) (x1 : List UInt8) (w : World) (hn0 : x0.length = n0) (hc0 : n0 ≤ c0) (hs0 : c0 ≤ 140737488351232) (rd0 : Rd w A0 x0) (hn1 : x1.length = n1) (hc1 : n1 ≤ c1) (hs1 : c1 ≤ 140737488351232) (rd1 : Rd w A1 x1) (hv : P10 w ∧ ∃ p4 p6, ZF w p4 p6) :
    Calls Tryd.prog 3 #[.slice A0 n0 c0, .slice A1 n1 c1] w fun e w' => e = .returned (.bool true) ∧ Below w.heap.size w w' := by
  obtain ⟨hp, p4, p6, hz⟩ := hv
  by_cases h : n0 = 4 ∨ n0 = 16
  · by_cases h1 : n1 = n0
    · subst h1
      rcases h with rfl | rfl
      · exact ns_main_4 A0 c0 x0 A1 c1 x1 p4 p6 w hz hp hn0 hc0 rd0 hn1 rd1
      · by_cases hm : x0.take 12 = mp
        · exact ns_mapped A0 c0 x0 A1 c1 w hn0 hc0 rd0 hm
        · exact ns_main_16 A0 c0 x0 A1 c1 x1 p4 p6 w hz hp hn0 hc0 rd0 hm hn1 rd1
    · exact ns_len A0 n0 c0 x0 A1 n1 c1 x1 w hn0 hc0 rd0 h h1
  · exact ns_no A0 n0 c0 x0 A1 n1 c1 x1 w hn0 hc0 rd0 h
end Go.Proofs.YtjepkkfpgmgnjaaDoor
