/-
  Contract of spec.To4: the IPv4 address of bytes. No condition but the length's (2^47).
-/
import Derived.Test.YtjepkkfpgmgnjaaDoorBytes
namespace Go.Proofs.YtjepkkfpgmgnjaaDoor
open Go.RowKit

set_option maxHeartbeats 400000 in
theorem specTo4_four (A : Option Addr) (c : Nat) (xs : List UInt8) (w : World) (hn : xs.length = 4) (ha : Rd w A xs) :
    Calls Tryd.prog 12 #[.slice A 4 c] w fun e w' => OwnOpt 5 w (to4 xs) e w' := by
  have HN := Lib.hid hn
  clear hn
  go_enter Tryd.func12, Tryd.ntmps12
  go_wp2_with fail
  refine (bytes_any _ _ _ xs _ HN.out ha (by decide)).mono ?_
  rintro e w1 ⟨A1, n1, c1, rfl, hn1, hown, hb⟩
  have HN1 := Lib.hid hn1
  clear hn1
  go_wp2
  go_ret2
  exact OwnOpt.some_ (to4_four HN.out) HN1.out hown hb (Below.refl _ _)

set_option maxHeartbeats 400000 in
theorem specTo4_other (A : Option Addr) (n c : Nat) (xs : List UInt8) (w : World) (hn : xs.length = n) (h4 : n ≠ 4) (h16 : n ≠ 16) :
    Calls Tryd.prog 12 #[.slice A n c] w fun e w' => OwnOpt 5 w (to4 xs) e w' := by
  have HT := Lib.hid (to4_other (xs := xs) (by omega) (by omega))
  clear hn
  have e4 : ((n : Int) == 4) = false := by simp; omega
  have e16 : ((n : Int) == 16) = false := by simp; omega
  clear h4 h16
  go_enter Tryd.func12, Tryd.ntmps12
  go_wp2_with fail
  go_quiet (fail)
  go_wp2
  go_ret2
  exact OwnOpt.none_ HT.out ⟨rfl, rfl, rfl, Nat.le_refl _, fun _ _ => rfl⟩

set_option maxHeartbeats 400000 in
theorem specTo4_six (A : Option Addr) (c : Nat) (xs : List UInt8) (w : World) (hn : xs.length = 16) (hc : 16 ≤ c) (ha : Rd w A xs) :
    Calls Tryd.prog 12 #[.slice A 16 c] w fun e w' => OwnOpt 5 w (to4 xs) e w' := by
  have HN := Lib.hid hn
  obtain ⟨b, off, rfl, _⟩ := ha.at_ (k := 0) (by omega)
  have h12 : (xs.take 12).length = 12 := by simp [hn]
  have H12 := Lib.hid h12
  have hc1 : (12 : Int) ≤ (c : Int) := by omega
  clear hn h12
  by_cases hm : xs.take 12 = mp
  · have HD := Lib.hid (eqb_true hm)
    have HM := Lib.hid hm
    clear hm
    go_enter Tryd.func12, Tryd.ntmps12
    go_wp2_with fail
    go_region_held3 (fun _ => True) (trivial) ((first
      | (go_at_call 31; refine (mapped_any _).mono ?_; rintro e w1 ⟨A1, n1, c1, rfl, hn1, hown1, hb1⟩; have HN1 := Lib.hid hn1; clear hn1)
      | (go_at_call 23; refine (same_any _ _ _ _ _ _ (xs.take 12) mp _ H12.out HN1.out ((ha.cut0 12).belowD hb1 rfl rfl) (Rd.of_own hown1) (by decide) true HD.out).mono ?_; rintro e w2 ⟨rfl, k2, rfl⟩)))
    go_wp2_with fail
    refine (bytes_any _ 4 _ (xs.drop 12) _ (by simp [HN.out]) (by exact ((ha.drop 12).belowD hb1 rfl rfl).drewN _) (by decide)).mono ?_
    rintro e w3 ⟨A3, n3, c3, rfl, hn3, hown3, hb3⟩
    have HN3 := Lib.hid hn3
    clear hn3
    go_wp2
    go_ret2
    exact OwnOpt.some_ (to4_mapped HN.out HM.out) HN3.out hown3 hb3 (below_drewN (below_undrew hb1) _)
  · have HD := Lib.hid (eqb_false hm)
    have HT := Lib.hid (to4_six HN.out hm)
    clear hm
    go_enter Tryd.func12, Tryd.ntmps12
    go_wp2_with fail
    go_region_held3 (fun _ => True) (trivial) ((first
      | (go_at_call 31; refine (mapped_any _).mono ?_; rintro e w1 ⟨A1, n1, c1, rfl, hn1, hown1, hb1⟩; have HN1 := Lib.hid hn1; clear hn1)
      | (go_at_call 23; refine (same_any _ _ _ _ _ _ (xs.take 12) mp _ H12.out HN1.out ((ha.cut0 12).belowD hb1 rfl rfl) (Rd.of_own hown1) (by decide) false HD.out).mono ?_; rintro e w2 ⟨rfl, k2, rfl⟩)))
    go_wp2
    go_ret2
    exact OwnOpt.none_ HT.out (below_drewN (below_undrew hb1) _)

/-- spec.To4, every slice -/
theorem specTo4_any (A : Option Addr) (n c : Nat) (xs : List UInt8) (w : World) (hn : xs.length = n) (hc : n ≤ c) (ha : Rd w A xs) :
    Calls Tryd.prog 12 #[.slice A n c] w fun e w' => OwnOpt 5 w (to4 xs) e w' := by
  by_cases h4 : n = 4
  · subst h4; exact specTo4_four A c xs w hn ha
  · by_cases h16 : n = 16
    · subst h16; exact specTo4_six A c xs w hn hc ha
    · exact specTo4_other A n c xs w hn h4 h16
end Go.Proofs.YtjepkkfpgmgnjaaDoor
