/-
  Contract of spec.String for 4 or 16 bytes. No condition.
-/
import Derived.Test.YtjepkkfpgmgnjaaDoorLongS
import Derived.Test.YtjepkkfpgmgnjaaDoorFour
import Derived.Test.YtjepkkfpgmgnjaaDoorSpecTo4
namespace Go.Proofs.YtjepkkfpgmgnjaaDoor
open Go.RowKit
set_option linter.unusedVariables false

set_option maxHeartbeats 1000000 in
theorem specString_some (A : Option Addr) (n c : Nat) (xs f : List UInt8) (w : World) (hn : xs.length = n) (hc : n ≤ c) (hs : n ≤ 140737488351232) (ha : Rd w A xs) (hf : to4 xs = some f) (h4 : f.length = 4) :
    Calls Tryd.prog 19 #[.slice A n c] w fun e w' => e = .returned (.string ⟨(ipText xs).toArray⟩) ∧ Below w.heap.size w w' := by
  have HI := Lib.hid (show ipText xs = dot4 f by unfold ipText; rw [hf])
  have HN := Lib.hid hn
  have HF := Lib.hid hf
  have H4 := Lib.hid h4
  clear hn hf h4
  go_enter Tryd.func19, Tryd.ntmps19
  go_wp2_with fail
  refine (specTo4_any _ _ _ xs _ HN.out hc (by exact ha)).mono ?_
  rintro e w1 ⟨A1, n1, c1, rfl, hn1, hown1, hb1⟩
  rw [HF.out] at hn1 hown1 ⊢
  obtain rfl : n1 = 4 := by rw [← hn1]; exact H4.out
  clear hn1
  go_wp2_with fail
  refine (four_any _ _ f _ H4.out (by exact Rd.of_own hown1)).mono ?_
  rintro e w2 ⟨rfl, hb2⟩
  go_wp2
  go_ret
  rw [HI.out]
  exact ⟨rfl, hb1.trans (hb2.mono hb1.size)⟩

set_option maxHeartbeats 1000000 in
theorem specString_none (A : Option Addr) (c : Nat) (xs : List UInt8) (w : World) (hn : xs.length = 16) (hc : 16 ≤ c) (ha : Rd w A xs) (hf : to4 xs = none) :
    Calls Tryd.prog 19 #[.slice A 16 c] w fun e w' => e = .returned (.string ⟨(ipText xs).toArray⟩) ∧ Below w.heap.size w w' := by
  have HI := Lib.hid (show ipText xs = long (gr xs) by unfold ipText; rw [hf])
  have HN := Lib.hid hn
  have HF := Lib.hid hf
  clear hn hf
  go_enter Tryd.func19, Tryd.ntmps19
  go_wp2_with fail
  refine (specTo4_any _ _ _ xs _ HN.out hc (by exact ha)).mono ?_
  rintro e w1 ⟨A1, n1, c1, rfl, hn1, hown1, hb1⟩
  rw [HF.out] at hn1 hown1 ⊢
  obtain rfl : n1 = 0 := hn1.symm
  clear hn1
  go_wp2_with fail
  refine (specLong_any _ _ xs _ HN.out (by exact ha.below hb1)).mono ?_
  rintro e w2 ⟨rfl, hb2⟩
  go_wp2
  go_ret
  rw [HI.out]
  exact ⟨rfl, hb1.trans (hb2.mono hb1.size)⟩

theorem specString_any (A : Option Addr) (n c : Nat) (xs : List UInt8) (w : World) (hn : xs.length = n) (hv : n = 4 ∨ n = 16) (hc : n ≤ c) (ha : Rd w A xs) :
    Calls Tryd.prog 19 #[.slice A n c] w fun e w' => e = .returned (.string ⟨(ipText xs).toArray⟩) ∧ Below w.heap.size w w' := by
  rcases hv with rfl | rfl
  · exact specString_some A 4 c xs xs w hn hc (by decide) ha (to4_four hn) hn
  · by_cases hm : xs.take 12 = mp
    · exact specString_some A 16 c xs (xs.drop 12) w hn hc (by decide) ha (to4_mapped hn hm) (by simp [hn])
    · exact specString_none A c xs w hn hc ha (to4_six hn hm)
end Go.Proofs.YtjepkkfpgmgnjaaDoor
