/-
  Contracts of (net.IP).To16 and impl.To16: the address in 16 bytes, or none. They read the package-level variable net.v4InV6Prefix (V4). No condition but the length's (2^47).
-/
import Derived.Test.YtjepkkfpgmgnjaaDoorIPv4
namespace Go.Proofs.YtjepkkfpgmgnjaaDoor
open Go.RowKit

set_option maxRecDepth 100000 in
set_option maxHeartbeats 400000 in
theorem netTo16_four (A : Option Addr) (c : Nat) (xs : List UInt8) (w : World) (hv : V4 w) (hn : xs.length = 4) (ha : Rd w A xs) :
    Calls Tryd.prog 47 #[.slice A 4 c] w fun e w' => BackOpt w (to16 xs) e w' := by
  obtain ⟨b, off, rfl, _, hcell⟩ := ha.at_ (k := 0) (by omega)
  have HT := Lib.hid (to16_four hn)
  match xs, hn with
  | [x0, x1, x2, x3], _ =>
    have c0 := hcell 0 (by simp)
    have c1 := hcell 1 (by simp)
    have c2 := hcell 2 (by simp)
    have c3 := hcell 3 (by simp)
    simp only [List.getElem_cons_zero, List.getElem_cons_succ, Nat.add_zero] at c0 c1 c2 c3
    clear hcell
    go_enter Tryd.func47, Tryd.ntmps47
    go_wp2
    go_still_tail 12, (by kernel_rfl)
    go_wp2_with fail
    refine (ipv4_any x0 x1 x2 x3 _ (by exact hv)).mono ?_
    rintro e w1 ⟨rfl, hown, hb⟩
    go_wp2
    go_ret
    exact BackOpt.some_ HT.out rfl (Nat.le_refl _) (Rd.of_own hown) (below_undrew hb)

theorem netTo16_six (A : Option Addr) (c : Nat) (xs : List UInt8) (w : World) (hn : xs.length = 16) (hc : 16 ≤ c) (ha : Rd w A xs) :
    Calls Tryd.prog 47 #[.slice A 16 c] w fun e w' => BackOpt w (to16 xs) e w' := by
  have HN := Lib.hid hn
  obtain ⟨b, off, rfl, _⟩ := ha.at_ (k := 0) (by omega)
  clear hn
  go_enter Tryd.func47, Tryd.ntmps47
  go_wp2
  go_ret
  exact BackOpt.some_ (to16_six HN.out) HN.out hc ha (Below.refl _ _)

theorem netTo16_other (A : Option Addr) (n c : Nat) (xs : List UInt8) (w : World) (hn : xs.length = n) (h4 : n ≠ 4) (h16 : n ≠ 16) :
    Calls Tryd.prog 47 #[.slice A n c] w fun e w' => BackOpt w (to16 xs) e w' := by
  have HT := Lib.hid (to16_other (xs := xs) (by omega) (by omega))
  have e4 : ((n : Int) == 4) = false := by simp; omega
  have e16 : ((n : Int) == 16) = false := by simp; omega
  clear h4 h16 hn
  go_enter Tryd.func47, Tryd.ntmps47
  go_wp2
  go_ret
  exact BackOpt.none_ HT.out (Below.refl _ _)

theorem netTo16_any (A : Option Addr) (n c : Nat) (xs : List UInt8) (w : World) (hv : V4 w) (hn : xs.length = n) (hc : n ≤ c) (ha : Rd w A xs) :
    Calls Tryd.prog 47 #[.slice A n c] w fun e w' => BackOpt w (to16 xs) e w' := by
  by_cases h4 : n = 4
  · subst h4; exact netTo16_four A c xs w hv hn ha
  · by_cases h16 : n = 16
    · subst h16; exact netTo16_six A c xs w hn hc ha
    · exact netTo16_other A n c xs w hn h4 h16

set_option maxHeartbeats 400000 in
theorem implTo16_any (A : Option Addr) (n c : Nat) (xs : List UInt8) (w : World) (hv : V4 w) (hn : xs.length = n) (hs : n ≤ 140737488351232) (ha : Rd w A xs) :
    Calls Tryd.prog 28 #[.slice A n c] w fun e w' => OwnOpt 5 w (to16 xs) e w' := by
  have HN := Lib.hid hn
  clear hn
  have hneq := fun (w : World) (a : Option Addr) (n c : Nat) => run_neq_slice_nil_any (P := Tryd.prog) w 46 5 a n c 0 0 Tryd.underlying46
  go_enter Tryd.func28, Tryd.ntmps28
  go_wp2_with fail
  refine (plain_any _ _ _ xs _ HN.out (by exact ha) (by omega)).mono ?_
  rintro e w1 ⟨A1, n1, c1, rfl, hn1, hown1, hb1⟩
  have HN1 := Lib.hid hn1
  clear hn1
  go_wp2_with fail
  refine (netTo16_any _ _ _ xs _ (by exact hv.below hb1) HN1.out (by exact own_cap hown1) (by exact Rd.of_own hown1)).mono ?_
  rintro e w2 ⟨A2, n2, c2, rfl, hn2, hc2, hr2, hnil2, hb2⟩
  have HN2 := Lib.hid hn2
  have HNIL := Lib.hid hnil2
  clear hn2 hnil2
  have hle : n2 ≤ 16 := by rw [← HN2.out]; exact to16_le xs
  go_wp2_with fail
  refine (plain_any _ _ _ ((to16 xs).getD []) _ HN2.out (by exact hr2) (by omega)).mono ?_
  rintro e w3 ⟨A3, n3, c3, rfl, hn3, hown3, hb3⟩
  have HN3 := Lib.hid hn3
  clear hn3
  go_wp2
  go_ret2
  have hb12 := hb1.trans (hb2.mono hb1.size)
  exact ⟨A3, n3, c3, tup2 HNIL.out, HN3.out, own_mono hown3 hb12.size, hb12.trans (hb3.mono hb12.size)⟩
end Go.Proofs.YtjepkkfpgmgnjaaDoor
