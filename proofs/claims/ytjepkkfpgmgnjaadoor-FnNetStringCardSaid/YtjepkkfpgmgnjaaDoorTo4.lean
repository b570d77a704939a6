/-
  Contracts of net.isZeros and (net.IP).To4: the IPv4 address of bytes. No condition but the lengths' (2^47).
-/
import Derived.Test.YtjepkkfpgmgnjaaDoorBase
namespace Go.Proofs.YtjepkkfpgmgnjaaDoor
open Go.RowKit

/-- are all bytes zero? -/
def allz (xs : List UInt8) : Bool := xs.all (· == 0)
theorem allz_false {xs : List UInt8} {k : Nat} (h : k < xs.length) (hne : (xs[k].toNat : Int) ≠ 0) : allz xs = false := by
  simp only [allz, List.all_eq_false]
  refine ⟨xs[k], List.getElem_mem h, ?_⟩
  intro he
  have : xs[k] = 0 := by simpa using he
  rw [this] at hne
  exact hne rfl
theorem allz_true {xs : List UInt8} (h : ∀ j (hj : j < xs.length), (xs[j].toNat : Int) = 0) : allz xs = true := by
  simp only [allz, List.all_eq_true]
  intro x hx
  obtain ⟨j, hj, rfl⟩ := List.getElem_of_mem hx
  have := h j hj
  simp only [beq_iff_eq]
  exact UInt8.toNat_inj.mp (by simpa using this)

set_option maxHeartbeats 400000 in
theorem isZeros_any (A : Option Addr) (n c : Nat) (xs : List UInt8) (w : World) (hn : xs.length = n) (ha : Rd w A xs) (hs : n ≤ 9223372036854775807) (r : Bool) (hr : allz xs = r) :
    Calls Tryd.prog 89 #[.slice A n c] w fun e w' => e = .returned (.bool r) ∧ w' = w := by
  subst hn hr
  go_enter Tryd.func89, Tryd.ntmps89
  go_wp2
  go_loop [3] (fun i => ∃ k : Nat, k ≤ xs.length ∧ i = .int .i64 k ∧ Hid (∀ j (h1 : j < xs.length), j < k → (xs[j].toNat : Int) = 0)) (fun i => xs.length - (intOf i).toNat)
  case atStart => exact ⟨0, Nat.zero_le _, rfl, fun j _ h => absurd h (by omega)⟩
  case round =>
    obtain ⟨k, hk, rfl, HS⟩ := hrel
    by_cases hlt : k < xs.length
    · obtain ⟨b, off, rfl, _, hc⟩ := ha.at_ hlt
      have h1 := hc k hlt
      clear hc
      go_wp2
      · go_ret
        have hd : ((xs[k].toNat : Int) != 0) = true := by assumption
        rw [allz_false hlt (by simpa using hd)]
        exact ⟨rfl, rfl⟩
      · go_round
        case rel =>
          have hd : ((xs[k].toNat : Int) != 0) = false := by assumption
          refine ⟨k + 1, by omega, by go_num, fun j a1 hj => ?_⟩
          rcases Nat.lt_or_ge j k with hjk | hjk
          · exact HS.out j a1 hjk
          · obtain rfl : j = k := by omega
            simpa using hd
        case measure => simp [intOf]; omega
    · go_wp2
      go_ret
      rw [allz_true (fun j hj => HS.out j hj (by omega))]
      exact ⟨rfl, rfl⟩

/-- ten zeros, 255, 255: the tests of To4 -/
theorem mp_iff {xs : List UInt8} (hn : xs.length = 16) : xs.take 12 = mp ↔ allz (xs.take 10) = true ∧ xs[10] = 255 ∧ xs[11] = 255 := by
  match xs, hn with
  | [x0, x1, x2, x3, x4, x5, x6, x7, x8, x9, x10, x11, x12, x13, x14, x15], _ => simp [mp, allz, and_assoc]

theorem netTo4_four (A : Option Addr) (c : Nat) (xs : List UInt8) (w : World) (hn : xs.length = 4) (hc : 4 ≤ c) (ha : Rd w A xs) :
    Calls Tryd.prog 79 #[.slice A 4 c] w fun e w' => PartOpt w (to4 xs) e w' := by
  have HN := Lib.hid hn
  obtain ⟨b, off, rfl, _⟩ := ha.at_ (k := 0) (by omega)
  clear hn
  go_enter Tryd.func79, Tryd.ntmps79
  go_wp2
  go_ret
  exact PartOpt.some_ (to4_four HN.out) HN.out hc ha

theorem netTo4_other (A : Option Addr) (n c : Nat) (xs : List UInt8) (w : World) (hn : xs.length = n) (h4 : n ≠ 4) (h16 : n ≠ 16) :
    Calls Tryd.prog 79 #[.slice A n c] w fun e w' => PartOpt w (to4 xs) e w' := by
  have HT := Lib.hid (to4_other (xs := xs) (by omega) (by omega))
  have e4 : ((n : Int) == 4) = false := by simp; omega
  have e16 : ((n : Int) == 16) = false := by simp; omega
  clear h4 h16 hn
  go_enter Tryd.func79, Tryd.ntmps79
  go_wp2
  go_ret
  exact PartOpt.none_ HT.out

set_option maxHeartbeats 400000 in
theorem netTo4_six (A : Option Addr) (c : Nat) (xs : List UInt8) (w : World) (hn : xs.length = 16) (hc : 16 ≤ c) (ha : Rd w A xs) :
    Calls Tryd.prog 79 #[.slice A 16 c] w fun e w' => PartOpt w (to4 xs) e w' := by
  obtain ⟨b, off, rfl, _, hcell⟩ := ha.at_ (k := 0) (by omega)
  have h10 := hcell 10 (by omega)
  have h11 := hcell 11 (by omega)
  have hmp := mp_iff hn
  generalize xs[10] = y10 at h10 hmp
  generalize xs[11] = y11 at h11 hmp
  have HN := Lib.hid hn
  have H10 := Lib.hid (show (xs.take 10).length = 10 by simp [hn])
  have hz10 := ha.cut0 10
  clear hcell
  by_cases hz : allz (xs.take 10) = true
  · by_cases e10 : y10 = 255
    · by_cases e11 : y11 = 255
      · have HZ := Lib.hid hz
        have HM := Lib.hid (hmp.mpr ⟨hz, e10, e11⟩)
        rw [e10] at h10
        rw [e11] at h11
        clear hn hz e10 e11 hmp
        go_enter Tryd.func79, Tryd.ntmps79
        go_wp2_with (go_at_call 89; refine (isZeros_any _ _ _ (xs.take 10) _ H10.out hz10 (by decide) true HZ.out).mono ?_; rintro e w' ⟨rfl, rfl⟩)
        go_ret
        exact PartOpt.some_ (to4_mapped HN.out HM.out) (by simp [HN.out]) (by omega) (ha.drop 12)
      · have HZ := Lib.hid hz
        have HT := Lib.hid (to4_six hn (fun h => e11 (hmp.mp h).2.2))
        rw [e10] at h10
        have t11 : ((y11.toNat : Int) == 255) = false := u8ne (y := 255) e11
        clear hn hz e10 e11 hmp
        go_enter Tryd.func79, Tryd.ntmps79
        go_wp2_with (go_at_call 89; refine (isZeros_any _ _ _ (xs.take 10) _ H10.out hz10 (by decide) true HZ.out).mono ?_; rintro e w' ⟨rfl, rfl⟩)
        go_ret
        exact PartOpt.none_ HT.out
    · have HZ := Lib.hid hz
      have HT := Lib.hid (to4_six hn (fun h => e10 (hmp.mp h).2.1))
      have t10 : ((y10.toNat : Int) == 255) = false := u8ne (y := 255) e10
      clear hn hz e10 hmp
      go_enter Tryd.func79, Tryd.ntmps79
      go_wp2_with (go_at_call 89; refine (isZeros_any _ _ _ (xs.take 10) _ H10.out hz10 (by decide) true HZ.out).mono ?_; rintro e w' ⟨rfl, rfl⟩)
      go_ret
      exact PartOpt.none_ HT.out
  · have HT := Lib.hid (to4_six hn (fun h => hz (hmp.mp h).1))
    have HZ := Lib.hid (show allz (xs.take 10) = false by simpa using hz)
    clear hn hz hmp
    go_enter Tryd.func79, Tryd.ntmps79
    go_wp2_with (go_at_call 89; refine (isZeros_any _ _ _ (xs.take 10) _ H10.out hz10 (by decide) false HZ.out).mono ?_; rintro e w' ⟨rfl, rfl⟩)
    go_ret
    exact PartOpt.none_ HT.out

theorem netTo4_any (A : Option Addr) (n c : Nat) (xs : List UInt8) (w : World) (hn : xs.length = n) (hc : n ≤ c) (ha : Rd w A xs) :
    Calls Tryd.prog 79 #[.slice A n c] w fun e w' => PartOpt w (to4 xs) e w' := by
  by_cases h4 : n = 4
  · subst h4; exact netTo4_four A c xs w hn hc ha
  · by_cases h16 : n = 16
    · subst h16; exact netTo4_six A c xs w hn hc ha
    · exact netTo4_other A n c xs w hn h4 h16
end Go.Proofs.YtjepkkfpgmgnjaaDoor
