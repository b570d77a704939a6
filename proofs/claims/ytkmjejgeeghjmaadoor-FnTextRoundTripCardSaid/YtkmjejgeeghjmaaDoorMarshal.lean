/-
  Contracts of (net.IP).AppendText, (net.IP).MarshalText and impl.MarshalText. Condition: the length (2^47).
-/
import Derived.Test.YtkmjejgeeghjmaaDoorIPString
import Derived.Test.YtkmjejgeeghjmaaDoorHex
namespace Go.Proofs.YtkmjejgeeghjmaaDoor
open Go.RowKit
set_option linter.unusedVariables false

set_option maxHeartbeats 1000000 in
theorem appText_zero (Z B : Option Addr) (cz nn c : Nat) (w : World) :
    Calls Tryd.prog 31 #[.slice Z 0 cz, .slice B nn c] w fun e w' => e = .returned (.tuple #[.slice B nn c, .nilIface]) ∧ w = w' := by
  go_enter Tryd.func31, Tryd.ntmps31
  go_wp2
  go_ret2
  exact ⟨rfl, rfl⟩

set_option maxHeartbeats 1000000 in
theorem appText_other (Z B : Option Addr) (n cz nn c : Nat) (xs : List UInt8) (w : World) (hx : xs.length = n) (h0 : n ≠ 0) (h4 : n ≠ 4) (h16 : n ≠ 16) (ha : Rd w Z xs) (hs : n ≤ 140737488351232) :
    Calls Tryd.prog 31 #[.slice Z n cz, .slice B nn c] w fun e w' => (∃ t v, e = .returned (.tuple #[.slice B nn c, .iface t v])) ∧ Below w.heap.size w w' := by
  have HX := Lib.hid hx
  have t0 : ((n : Int) == 0) = false := by simp; omega
  have t4 : ((n : Int) != 4) = true := by simp; omega
  have t16 : ((n : Int) != 16) = true := by simp; omega
  clear hx h0 h4 h16
  go_enter Tryd.func31, Tryd.ntmps31
  go_wp2_with fail
  refine (hexString_any _ _ _ xs _ HX.out (by exact ha) hs).mono ?_
  rintro e w1 ⟨rfl, hb1⟩
  go_wp2
  go_ret2
  exact ⟨⟨_, _, rfl⟩, hb1.alloc hb1.size _⟩

set_option maxHeartbeats 1000000 in
theorem appText_any (Z A : Option Addr) (n cz nn c : Nat) (l xs : List UInt8) (p4 p6 : Addr) (w0 w : World) (hz : ZF w0 p4 p6) (hb0 : Below w0.heap.size w0 w) (hx : xs.length = n) (hv : n = 4 ∨ n = 16) (hcz : n ≤ cz) (ha : Rd w Z xs) (hnn : l.length = nn) (ho : w.ownsRow w0.heap.size 5 1 (.slice A nn c) l.length (cb l)) (hl : nn ≤ 50000) :
    Calls Tryd.prog 31 #[.slice Z n cz, .slice A nn c] w fun e w' => ∃ s, e = .returned (.tuple #[s, .nilIface]) ∧ AppTo w0.heap.size w (.slice A nn c) (l ++ ipText xs) (.returned s) w' := by
  have HX := Lib.hid hx
  have HN := Lib.hid hnn
  have HV := Lib.hid hv
  clear hx hnn
  rcases hv with rfl | rfl
  all_goals
    go_enter Tryd.func31, Tryd.ntmps31
    go_wp2_with fail
    refine (ipAppend_any _ _ _ _ _ _ l xs p4 p6 w0 _ hz hb0 HX.out (by decide) hcz (by exact ha) HN.out (by exact ho) hl).mono ?_
    rintro e w1 ⟨A1, n1, c1, rfl, hn1, ho1, hm1⟩
    have HN1 := Lib.hid hn1
    clear hn1
    go_wp2
    go_ret2
    exact ⟨_, rfl, A1, n1, c1, rfl, HN1.out, ho1, hm1⟩

set_option maxHeartbeats 1000000 in
theorem marText_zero (Z : Option Addr) (cz : Nat) (w : World) :
    Calls Tryd.prog 24 #[.slice Z 0 cz] w fun e w' => ∃ A c, e = .returned (.tuple #[.slice A 0 c, .nilIface]) ∧ Below w.heap.size w w' := by
  obtain ⟨i8, hi8, hz0, hz1, hz2⟩ := info_parts info8
  go_enter Tryd.func24, Tryd.ntmps24
  go_wp2_with (refine wpList_make_own _ rfl _ _ 22 rfl w.heap.size 5 i8 (.int .u8 0) 1 Tryd.underlying22 hi8 hz0 hz1 .i64 .i64 _ 24 rfl rfl ?h1 ?h2 ?h3 (Nat.le_refl _) ?_)
  case h1 => rfl
  case h2 => rw [hz2]; decide
  case h3 => simp only [maxLen]; decide
  intro w1 hown hg
  have hb1 : Below w.heap.size w w1 := (Below.refl _ _).grown hg (Nat.le_refl _) (by simp)
  clear hg
  go_wp2_with fail
  refine (appText_zero _ _ _ 0 _ _).mono ?_
  rintro e w2 ⟨rfl, rfl⟩
  go_wp2
  go_ret2
  exact ⟨_, _, rfl, hb1⟩

set_option maxHeartbeats 1000000 in
theorem marText_other (Z : Option Addr) (n cz : Nat) (xs : List UInt8) (w : World) (hx : xs.length = n) (h0 : n ≠ 0) (h4 : n ≠ 4) (h16 : n ≠ 16) (ha : Rd w Z xs) (hs : n ≤ 140737488351232) :
    Calls Tryd.prog 24 #[.slice Z n cz] w fun e w' => (∃ t v, e = .returned (.tuple #[.slice none 0 0, .iface t v])) ∧ Below w.heap.size w w' := by
  obtain ⟨i8, hi8, hz0, hz1, hz2⟩ := info_parts info8
  have HX := Lib.hid hx
  have H0 := Lib.hid h0
  have H4 := Lib.hid h4
  have H16 := Lib.hid h16
  clear hx h0 h4 h16
  go_enter Tryd.func24, Tryd.ntmps24
  go_wp2_with (refine wpList_make_own _ rfl _ _ 22 rfl w.heap.size 5 i8 (.int .u8 0) 1 Tryd.underlying22 hi8 hz0 hz1 .i64 .i64 _ 24 rfl rfl ?h1 ?h2 ?h3 (Nat.le_refl _) ?_)
  case h1 => rfl
  case h2 => rw [hz2]; decide
  case h3 => simp only [maxLen]; decide
  intro w1 hown hg
  have hb1 : Below w.heap.size w w1 := (Below.refl _ _).grown hg (Nat.le_refl _) (by simp)
  clear hg
  go_wp2_with fail
  refine (appText_other _ _ _ _ 0 _ xs _ HX.out H0.out H4.out H16.out (by exact ha.below hb1) hs).mono ?_
  rintro e w2 ⟨⟨t, v, rfl⟩, hb2⟩
  go_wp2
  go_ret2
  exact ⟨⟨_, _, rfl⟩, hb1.trans (hb2.mono hb1.size)⟩

set_option maxHeartbeats 1000000 in
theorem marText_any (Z : Option Addr) (n cz : Nat) (xs : List UInt8) (p4 p6 : Addr) (w : World) (hz : ZF w p4 p6) (hx : xs.length = n) (hv : n = 4 ∨ n = 16) (hcz : n ≤ cz) (ha : Rd w Z xs) :
    Calls Tryd.prog 24 #[.slice Z n cz] w fun e w' => ∃ A k c, e = .returned (.tuple #[.slice A k c, .nilIface]) ∧ (ipText xs).length = k ∧ w'.ownsRow w.heap.size 5 1 (.slice A k c) (ipText xs).length (cb (ipText xs)) ∧ Below w.heap.size w w' := by
  obtain ⟨i8, hi8, hz0, hz1, hz2⟩ := info_parts info8
  have HX := Lib.hid hx
  have HV := Lib.hid hv
  clear hx hv
  go_enter Tryd.func24, Tryd.ntmps24
  go_wp2_with (refine wpList_make_own _ rfl _ _ 22 rfl w.heap.size 5 i8 (.int .u8 0) 1 Tryd.underlying22 hi8 hz0 hz1 .i64 .i64 _ 24 rfl rfl ?h1 ?h2 ?h3 (Nat.le_refl _) ?_)
  case h1 => rfl
  case h2 => rw [hz2]; decide
  case h3 => simp only [maxLen]; decide
  intro w1 hown hg
  have hb1 : Below w.heap.size w w1 := (Below.refl _ _).grown hg (Nat.le_refl _) (by simp)
  clear hg
  go_wp2_with fail
  refine (appText_any _ _ _ _ 0 _ [] xs p4 p6 w _ hz hb1 HX.out HV.out hcz (by exact ha.below hb1) rfl (by exact hown) (by decide)).mono ?_
  rintro e w2 ⟨s, rfl, A2, n2, c2, hs2, hn2, ho2, hm2⟩
  cases hs2
  have hb2 := hm2.below hb1 hown
  rw [List.nil_append] at hn2 ho2
  have HN2 := Lib.hid hn2
  clear hn2
  go_wp2
  go_ret2
  exact ⟨_, _, _, rfl, HN2.out, ho2, hb2⟩

theorem implMar_zero (Z : Option Addr) (cz : Nat) (w : World) :
    Calls Tryd.prog 11 #[.slice Z 0 cz] w fun e w' => e = .returned (.tuple #[.string ⟨#[]⟩, .bool true]) ∧ Below w.heap.size w w' := by
  go_enter Tryd.func11, Tryd.ntmps11
  go_wp2_with fail
  refine (plain_any _ _ _ [] _ rfl (by exact Rd.nil _ _) (by decide)).mono ?_
  rintro e w1 ⟨A1, n1, c1, rfl, hn1, hown1, hb1⟩
  obtain rfl : n1 = 0 := hn1.symm
  clear hn1
  go_wp2_with fail
  refine (marText_zero _ _ _).mono ?_
  rintro e w2 ⟨A2, c2, rfl, hb2⟩
  have hst : (convert 22 9 (.slice A2 0 c2)).run Tryd.prog w2.drew = .ok (.string ⟨#[]⟩) w2.drew := run_str 22 9 5 Tryd.underlying22 Tryd.underlying5 Tryd.underlying9 c2 (xs := []) (n := 0) rfl (P := Tryd.prog) (w := w2.drew) (A := A2) (Rd.nil _ _)
  go_wp2
  go_region
  go_wp2
  go_ret2
  exact ⟨rfl, (hb1.trans (hb2.mono hb1.size)).drew⟩

theorem implMar_other (Z : Option Addr) (n cz : Nat) (xs : List UInt8) (w : World) (hx : xs.length = n) (h0 : n ≠ 0) (h4 : n ≠ 4) (h16 : n ≠ 16) (ha : Rd w Z xs) (hs : n ≤ 140737488351232) :
    Calls Tryd.prog 11 #[.slice Z n cz] w fun e w' => e = .returned (.tuple #[.string ⟨#[]⟩, .bool false]) ∧ Below w.heap.size w w' := by
  have HX := Lib.hid hx
  have H0 := Lib.hid h0
  have H4 := Lib.hid h4
  have H16 := Lib.hid h16
  clear hx h0 h4 h16
  go_enter Tryd.func11, Tryd.ntmps11
  go_wp2_with fail
  refine (plain_any _ _ _ xs _ HX.out (by exact ha) (by omega)).mono ?_
  rintro e w1 ⟨A1, n1, c1, rfl, hn1, hown1, hb1⟩
  obtain rfl : n = n1 := HX.out.symm.trans hn1
  clear hn1
  go_wp2_with fail
  refine (marText_other _ _ _ xs _ HX.out H0.out H4.out H16.out (by exact Rd.of_own hown1) hs).mono ?_
  rintro e w2 ⟨⟨t, v, rfl⟩, hb2⟩
  have hst : (convert 22 9 (.slice none 0 0)).run Tryd.prog w2.drew = .ok (.string ⟨#[]⟩) w2.drew := run_str 22 9 5 Tryd.underlying22 Tryd.underlying5 Tryd.underlying9 0 (xs := []) (n := 0) rfl (P := Tryd.prog) (w := w2.drew) (A := none) (Rd.nil _ _)
  go_wp2
  go_region
  go_wp2
  go_ret2
  exact ⟨rfl, (hb1.trans (hb2.mono hb1.size)).drew⟩

theorem implMar_any (Z : Option Addr) (n cz : Nat) (xs : List UInt8) (p4 p6 : Addr) (w : World) (hz : ZF w p4 p6) (hx : xs.length = n) (hv : n = 4 ∨ n = 16) (ha : Rd w Z xs) :
    Calls Tryd.prog 11 #[.slice Z n cz] w fun e w' => e = .returned (.tuple #[.string ⟨(ipText xs).toArray⟩, .bool true]) ∧ Below w.heap.size w w' := by
  have HX := Lib.hid hx
  have HV := Lib.hid hv
  have hs : n ≤ 16 := by omega
  clear hx hv
  go_enter Tryd.func11, Tryd.ntmps11
  go_wp2_with fail
  refine (plain_any _ _ _ xs _ HX.out (by exact ha) (by omega)).mono ?_
  rintro e w1 ⟨A1, n1, c1, rfl, hn1, hown1, hb1⟩
  obtain rfl : n = n1 := HX.out.symm.trans hn1
  clear hn1
  have hcap : n ≤ c1 := own_cap hown1
  go_wp2_with fail
  refine (marText_any _ _ _ xs p4 p6 _ (hz.below hb1) HX.out HV.out hcap (by exact Rd.of_own hown1)).mono ?_
  rintro e w2 ⟨A2, k2, c2, rfl, hk2, ho2, hb2⟩
  have hst := run_str 22 9 5 Tryd.underlying22 Tryd.underlying5 Tryd.underlying9 c2 hk2 ((Rd.of_own ho2).below (Below.refl _ _).drew)
  clear hk2
  go_wp2
  go_region
  go_wp2
  go_ret2
  exact ⟨rfl, (hb1.trans (hb2.mono hb1.size)).drew⟩
end Go.Proofs.YtkmjejgeeghjmaaDoor
