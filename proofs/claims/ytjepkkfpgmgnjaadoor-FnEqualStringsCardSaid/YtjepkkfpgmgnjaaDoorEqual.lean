/-
  Contracts of (net.IP).Equal and impl.Equal. (net.IP).Equal reads the package-level variable net.v4InV6Prefix (V4). No condition but the lengths' (2^47).
-/
import Derived.Test.YtjepkkfpgmgnjaaDoorV4
import Derived.Test.YtjepkkfpgmgnjaaDoorBeq
import Derived.Test.YtjepkkfpgmgnjaaDoorBase
import Derived.Test.YtjepkkfpgmgnjaaDoorValid
namespace Go.Proofs.YtjepkkfpgmgnjaaDoor
open Go.RowKit

/-- the same address, in 16 bytes? -/
def ipEq (xs ys : List UInt8) : Bool :=
  if xs.length = ys.length then eqb xs ys
  else if xs.length = 4 ∧ ys.length = 16 then eqb (ys.take 12) mp && eqb xs (ys.drop 12)
  else if xs.length = 16 ∧ ys.length = 4 then eqb (xs.take 12) mp && eqb (xs.drop 12) ys
  else false

set_option maxHeartbeats 400000 in
theorem netEqual_same (A B : Option Addr) (n c d : Nat) (xs ys : List UInt8) (w : World) (hn : xs.length = n) (hm : ys.length = n) (ha : Rd w A xs) (hb : Rd w B ys) (r : Bool) (hr : eqb xs ys = r) :
    Calls Tryd.prog 48 #[.slice A n c, .slice B n d] w fun e w' => e = .returned (.bool r) ∧ ∃ k, w' = w.drewN k := by
  have HN := Lib.hid hn
  have HM := Lib.hid hm
  have HR := Lib.hid hr
  clear hn hm hr
  go_enter Tryd.func48, Tryd.ntmps48
  go_wp2_with fail
  refine (beqEq_any _ _ _ _ _ _ xs ys _ HN.out HM.out (by exact ha) (by exact hb) r HR.out).mono ?_
  rintro e w1 ⟨rfl, rfl⟩
  go_wp2
  go_ret
  exact ⟨rfl, 0, rfl⟩

set_option maxHeartbeats 400000 in
theorem netEqual_46 (A B : Option Addr) (c d : Nat) (xs ys : List UInt8) (w : World) (hv : V4 w) (hn : xs.length = 4) (hm : ys.length = 16) (hd : 16 ≤ d) (ha : Rd w A xs) (hb : Rd w B ys) :
    Calls Tryd.prog 48 #[.slice A 4 c, .slice B 16 d] w fun e w' => e = .returned (.bool (eqb (ys.take 12) mp && eqb xs (ys.drop 12))) ∧ ∃ k, w' = w.drewN k := by
  obtain ⟨vb, vo, vc, hcell, hvc, hlt, hrd⟩ := hv
  obtain ⟨b, off, rfl, _⟩ := hb.at_ (k := 0) (by omega)
  have HN := Lib.hid hn
  have H12 := Lib.hid (show (ys.take 12).length = 12 by simp [hm])
  have H4 := Lib.hid (show (ys.drop 12).length = 4 by simp [hm])
  have hc1 : (12 : Int) ≤ (d : Int) := by omega
  have hc2 : (16 : Int) ≤ (d : Int) := by omega
  clear hn hm
  by_cases he : eqb (ys.take 12) mp = true
  · have HE := Lib.hid he
    obtain ⟨r, hr⟩ : ∃ r, eqb xs (ys.drop 12) = r := ⟨_, rfl⟩
    rw [he, hr]
    have HR := Lib.hid hr
    clear he hr
    go_enter Tryd.func48, Tryd.ntmps48
    go_wp2_with fail
    go_quiet ((first
      | (go_at_call_of 57 (Value.slice (some ⟨vb, vo, none⟩) 12 vc); refine Calls.quiet_of_same (beqEq_any _ _ _ _ _ _ (ys.take 12) mp _ H12.out rfl (by exact hb.cut0 12) (by exact hrd) true HE.out))
      | (go_at_call_of 57 (Value.slice A 4 c); refine Calls.quiet_of_same (beqEq_any _ _ _ _ _ _ xs (ys.drop 12) _ HN.out H4.out (by exact ha) (by exact hb.drop 12) r HR.out))))
    go_wp2
    go_ret
    exact ⟨ret_bool (by simp), _, rfl⟩
  · have he' : eqb (ys.take 12) mp = false := by simpa using he
    rw [he']
    have HE := Lib.hid he'
    clear he he'
    go_enter Tryd.func48, Tryd.ntmps48
    go_wp2_with fail
    go_quiet ((go_at_call 57; refine Calls.quiet_of_same (beqEq_any _ _ _ _ _ _ (ys.take 12) mp _ H12.out rfl (by exact hb.cut0 12) (by exact hrd) false HE.out)))
    go_wp2
    go_ret
    exact ⟨rfl, _, rfl⟩
set_option maxHeartbeats 400000 in
theorem netEqual_64 (A B : Option Addr) (c d : Nat) (xs ys : List UInt8) (w : World) (hv : V4 w) (hn : xs.length = 16) (hm : ys.length = 4) (hd : 16 ≤ c) (ha : Rd w A xs) (hb : Rd w B ys) :
    Calls Tryd.prog 48 #[.slice A 16 c, .slice B 4 d] w fun e w' => e = .returned (.bool (eqb (xs.take 12) mp && eqb (xs.drop 12) ys)) ∧ ∃ k, w' = w.drewN k := by
  obtain ⟨vb, vo, vc, hcell, hvc, hlt, hrd⟩ := hv
  obtain ⟨b, off, rfl, _⟩ := ha.at_ (k := 0) (by omega)
  have HN := Lib.hid hm
  have H12 := Lib.hid (show (xs.take 12).length = 12 by simp [hn])
  have H4 := Lib.hid (show (xs.drop 12).length = 4 by simp [hn])
  have hc1 : (12 : Int) ≤ (c : Int) := by omega
  have hc2 : (16 : Int) ≤ (c : Int) := by omega
  clear hn hm
  by_cases he : eqb (xs.take 12) mp = true
  · have HE := Lib.hid he
    obtain ⟨r, hr⟩ : ∃ r, eqb (xs.drop 12) ys = r := ⟨_, rfl⟩
    rw [he, hr]
    have HR := Lib.hid hr
    clear he hr
    go_enter Tryd.func48, Tryd.ntmps48
    go_wp2_with fail
    go_quiet ((first
      | (go_at_call_of 57 (Value.slice (some ⟨vb, vo, none⟩) 12 vc); refine Calls.quiet_of_same (beqEq_any _ _ _ _ _ _ (xs.take 12) mp _ H12.out rfl (by exact ha.cut0 12) (by exact hrd) true HE.out))
      | (go_at_call_of 57 (Value.slice B 4 d); refine Calls.quiet_of_same (beqEq_any _ _ _ _ _ _ (xs.drop 12) ys _ H4.out HN.out (by exact ha.drop 12) (by exact hb) r HR.out))))
    go_wp2
    go_ret
    exact ⟨ret_bool (by simp), _, rfl⟩
  · have he' : eqb (xs.take 12) mp = false := by simpa using he
    rw [he']
    have HE := Lib.hid he'
    clear he he'
    go_enter Tryd.func48, Tryd.ntmps48
    go_wp2_with fail
    go_quiet ((go_at_call 57; refine Calls.quiet_of_same (beqEq_any _ _ _ _ _ _ (xs.take 12) mp _ H12.out rfl (by exact ha.cut0 12) (by exact hrd) false HE.out)))
    go_wp2
    go_ret
    exact ⟨rfl, _, rfl⟩

theorem netEqual_any (A B : Option Addr) (n m c d : Nat) (xs ys : List UInt8) (w : World) (hv : V4 w) (hn : xs.length = n) (hm : ys.length = m) (hc : n ≤ c) (hd : m ≤ d) (ha : Rd w A xs) (hb : Rd w B ys)
    (h1 : n = 4 ∨ n = 16) (h2 : m = 4 ∨ m = 16) (r : Bool) (hr : ipEq xs ys = r) :
    Calls Tryd.prog 48 #[.slice A n c, .slice B m d] w fun e w' => e = .returned (.bool r) ∧ ∃ k, w' = w.drewN k := by
  subst hr
  rcases h1 with rfl | rfl <;> rcases h2 with rfl | rfl
  · exact netEqual_same A B 4 c d xs ys w hn hm ha hb _ (by simp [ipEq, hn, hm])
  · have := netEqual_46 A B c d xs ys w hv hn hm hd ha hb
    simpa [ipEq, hn, hm] using this
  · have := netEqual_64 A B c d xs ys w hv hn hm hc ha hb
    simpa [ipEq, hn, hm] using this
  · exact netEqual_same A B 16 c d xs ys w hn hm ha hb _ (by simp [ipEq, hn, hm])

set_option maxHeartbeats 400000 in
theorem implEqual_any (A B : Option Addr) (n m c d : Nat) (xs ys : List UInt8) (w : World) (hv : V4 w) (hn : xs.length = n) (hm : ys.length = m) (ha : Rd w A xs) (hb : Rd w B ys)
    (h1 : n = 4 ∨ n = 16) (h2 : m = 4 ∨ m = 16) (r : Bool) (hr : ipEq xs ys = r) :
    Calls Tryd.prog 29 #[.slice A n c, .slice B m d] w fun e w' => e = .returned (.bool r) ∧ Below w.heap.size w w' := by
  have HN := Lib.hid hn
  have HM := Lib.hid hm
  have HR := Lib.hid hr
  have H1 := Lib.hid h1
  have H2 := Lib.hid h2
  have hn16 : n ≤ 16 := by omega
  have hm16 : m ≤ 16 := by omega
  clear hn hm hr h1 h2
  go_enter Tryd.func29, Tryd.ntmps29
  go_wp2_with fail
  refine (plain_any _ _ _ xs _ HN.out (by exact ha) (by omega)).mono ?_
  rintro e w1 ⟨A1, n1, c1, rfl, hn1, hown1, hb1⟩
  obtain rfl : n1 = n := by rw [← hn1, HN.out]
  clear hn1
  go_wp2_with fail
  refine (plain_any _ _ _ ys _ HM.out (by exact hb.below hb1) (by omega)).mono ?_
  rintro e w2 ⟨A2, n2, c2, rfl, hn2, hown2, hb2⟩
  obtain rfl : n2 = m := by rw [← hn2, HM.out]
  clear hn2
  have hb12 := hb1.trans (hb2.mono hb1.size)
  go_wp2_with fail
  refine (netEqual_any _ _ _ _ _ _ xs ys _ (by exact hv.below hb12) HN.out HM.out (by exact own_cap hown1) (by exact own_cap hown2) (by exact (Rd.of_own hown1).below hb2) (by exact Rd.of_own hown2) H1.out H2.out r HR.out).mono ?_
  rintro e w3 ⟨rfl, k3, rfl⟩
  go_wp2
  go_ret
  exact ⟨rfl, below_drewN hb12 _⟩

theorem ipEq_to16 {xs ys : List UInt8} (h1 : xs.length = 4 ∨ xs.length = 16) (h2 : ys.length = 4 ∨ ys.length = 16) : eqb ((to16 xs).getD []) ((to16 ys).getD []) = ipEq xs ys := by
  have e : mp.length = 12 := rfl
  rcases h1 with h1 | h1 <;> rcases h2 with h2 | h2
  · simp [ipEq, h1, h2, to16, eqb]
  · simp only [ipEq, h1, h2, to16, eqb, if_true]
    rw [Bool.eq_iff_iff]
    simp
    constructor
    · rintro rfl
      simp [e]
    · rintro ⟨h3, h4⟩
      rw [h4, ← h3]
      exact (List.take_append_drop 12 ys)
  · simp only [ipEq, h1, h2, to16, eqb, if_true]
    rw [Bool.eq_iff_iff]
    simp
    constructor
    · rintro rfl
      simp [e]
    · rintro ⟨h3, h4⟩
      rw [← h4, ← h3]
      exact (List.take_append_drop 12 xs).symm
  · simp [ipEq, h1, h2, to16, eqb]
end Go.Proofs.YtjepkkfpgmgnjaaDoor
