/-
  The walk of the statement FnToAndBack: it returns true and changes nothing that was there.
-/
import Derived.Test.YtebnhhifodmkkaaDoorTo16
import Derived.Test.YtebnhhifodmkkaaDoorImplTo4
import Derived.Test.YtebnhhifodmkkaaDoorEqual
namespace Go.Proofs.YtebnhhifodmkkaaDoor
open Go.RowKit
set_option linter.unusedVariables false

set_option maxHeartbeats 1000000 in
theorem walk_FnToAndBack (A : Option Addr) (n c : Nat) (xs : List UInt8) (w : World) (hn : xs.length = n) (hc : n ≤ c) (hs : c ≤ 140737488351232) (ha : Rd w A xs) (hv : V4 w) :
    Calls Tryd.prog 6 #[.slice A n c] w fun e w' => e = .returned (.bool true) ∧ Below w.heap.size w w' := by
  have HN := Lib.hid hn
  have hle := to16_le xs
  have h4le := to4_le xs
  by_cases v4 : n = 4
  · subst v4
    have T16 := Lib.hid (to16_four hn)
    have T4 := Lib.hid (to4_four hn)
    have T44 := Lib.hid (to4_mapped (xs := mp ++ xs) (by simp [hn, mp]) (by simp [mp]))
    have HL := Lib.hid (show (mp ++ xs).length = 16 by simp [hn, mp])
    have HD := Lib.hid (show (mp ++ xs).drop 12 = xs by simp [mp])
    clear hn
    go_enter Tryd.func6, Tryd.ntmps6
    go_wp2_with fail
    refine (implTo16_any _ _ _ xs _ hv HN.out (by omega) (by exact ha)).mono ?_
    rintro e w1 ⟨A1, n1, c1, rfl, hn1, hown1, hb1⟩
    rw [T16.out] at hn1 hown1 ⊢
    obtain rfl : n1 = 16 := by rw [← hn1]; exact HL.out
    clear hn1
    go_wp2_with fail
    refine (implTo4_any _ _ _ xs _ HN.out (by omega) (by exact ha.below hb1)).mono ?_
    rintro e w2 ⟨A2, n2, c2, rfl, hn2, hown2, hb2⟩
    rw [T4.out] at hn2 hown2 ⊢
    obtain rfl : n2 = 4 := by rw [← hn2]; exact HN.out
    clear hn2
    have hb12 := hb1.trans (hb2.mono hb1.size)
    go_wp2_with fail
    refine (valid_any _ 4 _ _ true (by decide)).mono ?_
    rintro e w0 ⟨rfl, rfl⟩
    go_wp2_with fail
    refine (implTo4_any _ _ _ (mp ++ xs) _ HL.out (by decide) (by exact (Rd.of_own (xs := mp ++ xs) hown1).below hb2)).mono ?_
    rintro e w3 ⟨A3, n3, c3, rfl, hn3, hown3, hb3⟩
    rw [T44.out, HD.out] at hn3 hown3
    rw [T44.out]
    obtain rfl : n3 = 4 := by rw [← hn3]; exact HN.out
    clear hn3
    have hb13 := hb12.trans (hb3.mono hb12.size)
    go_wp2_with fail
    refine (same_any _ _ _ _ _ _ xs xs _ HN.out HN.out (by exact Rd.of_own (xs := xs) hown3) (by exact ha.below hb13) (by decide) true (eqb_true rfl)).mono ?_
    rintro e w4 ⟨rfl, k4, rfl⟩
    go_wp2_with fail
    refine (same_any _ _ _ _ _ _ xs xs _ HN.out HN.out (by exact ((Rd.of_own (xs := xs) hown2).below hb3).drewN _) (by exact (ha.below hb13).drewN _) (by decide) true (eqb_true rfl)).mono ?_
    rintro e w5 ⟨rfl, k5, rfl⟩
    go_wp2
    go_ret
    exact ⟨rfl, below_drewN hb13 _⟩
  · by_cases v16 : n = 16
    · subst v16
      have T16 := Lib.hid (to16_six hn)
      by_cases hm : xs.take 12 = mp
      · have T4 := Lib.hid (to4_mapped hn hm)
        have HD := Lib.hid (show (xs.drop 12).length = 4 by simp [hn])
        have T44 := Lib.hid (show to16 (xs.drop 12) = some xs by rw [to16_four (by simp [hn]), ← hm, List.take_append_drop])
        clear hn hm
        go_enter Tryd.func6, Tryd.ntmps6
        go_wp2_with fail
        refine (implTo16_any _ _ _ xs _ hv HN.out (by omega) (by exact ha)).mono ?_
        rintro e w1 ⟨A1, n1, c1, rfl, hn1, hown1, hb1⟩
        rw [T16.out] at hn1 hown1 ⊢
        obtain rfl : n1 = 16 := by rw [← hn1]; exact HN.out
        clear hn1
        go_wp2_with fail
        refine (implTo4_any _ _ _ xs _ HN.out (by omega) (by exact ha.below hb1)).mono ?_
        rintro e w2 ⟨A2, n2, c2, rfl, hn2, hown2, hb2⟩
        rw [T4.out] at hn2 hown2 ⊢
        obtain rfl : n2 = 4 := by rw [← hn2]; exact HD.out
        clear hn2
        have hb12 := hb1.trans (hb2.mono hb1.size)
        go_wp2_with fail
        refine (valid_any _ 16 _ _ true (by decide)).mono ?_
        rintro e w0 ⟨rfl, rfl⟩
        go_wp2_with fail
        refine (implTo16_any _ _ _ (xs.drop 12) _ (by exact hv.below hb12) HD.out (by decide) (by exact Rd.of_own (xs := xs.drop 12) hown2)).mono ?_
        rintro e w3 ⟨A3, n3, c3, rfl, hn3, hown3, hb3⟩
        rw [T44.out] at hn3 hown3 ⊢
        obtain rfl : n3 = 16 := by rw [← hn3]; exact HN.out
        clear hn3
        have hb13 := hb12.trans (hb3.mono hb12.size)
        go_wp2_with fail
        refine (same_any _ _ _ _ _ _ xs xs _ HN.out HN.out (by exact ((Rd.of_own (xs := xs) hown1).below hb2).below hb3) (by exact ha.below hb13) (by decide) true (eqb_true rfl)).mono ?_
        rintro e w4 ⟨rfl, k4, rfl⟩
        go_wp2_with fail
        refine (same_any _ _ _ _ _ _ xs xs _ HN.out HN.out (by exact (Rd.of_own (xs := xs) hown3).drewN _) (by exact (ha.below hb13).drewN _) (by decide) true (eqb_true rfl)).mono ?_
        rintro e w5 ⟨rfl, k5, rfl⟩
        go_wp2
        go_ret
        exact ⟨rfl, below_drewN hb13 _⟩
      · have T4 := Lib.hid (to4_six hn hm)
        have T0 := Lib.hid (show to16 [] = none by rfl)
        clear hn hm
        go_enter Tryd.func6, Tryd.ntmps6
        go_wp2_with fail
        refine (implTo16_any _ _ _ xs _ hv HN.out (by omega) (by exact ha)).mono ?_
        rintro e w1 ⟨A1, n1, c1, rfl, hn1, hown1, hb1⟩
        rw [T16.out] at hn1 hown1 ⊢
        obtain rfl : n1 = 16 := by rw [← hn1]; exact HN.out
        clear hn1
        go_wp2_with fail
        refine (implTo4_any _ _ _ xs _ HN.out (by omega) (by exact ha.below hb1)).mono ?_
        rintro e w2 ⟨A2, n2, c2, rfl, hn2, hown2, hb2⟩
        rw [T4.out] at hn2 hown2 ⊢
        obtain rfl : n2 = 0 := hn2.symm
        clear hn2
        have hb12 := hb1.trans (hb2.mono hb1.size)
        go_wp2_with fail
        refine (valid_any _ 16 _ _ true (by decide)).mono ?_
        rintro e w0 ⟨rfl, rfl⟩
        go_wp2_with fail
        refine (implTo16_any _ _ _ [] _ (by exact hv.below hb12) rfl (by decide) (by exact Rd.nil _ _)).mono ?_
        rintro e w3 ⟨A3, n3, c3, rfl, hn3, hown3, hb3⟩
        rw [T0.out] at hn3 hown3 ⊢
        obtain rfl : n3 = 0 := hn3.symm
        clear hn3
        have hb13 := hb12.trans (hb3.mono hb12.size)
        go_wp2_with fail
        refine (same_any _ _ _ _ _ _ xs xs _ HN.out HN.out (by exact ((Rd.of_own (xs := xs) hown1).below hb2).below hb3) (by exact ha.below hb13) (by decide) true (eqb_true rfl)).mono ?_
        rintro e w4 ⟨rfl, k4, rfl⟩
        go_wp2
        go_ret
        exact ⟨rfl, below_drewN hb13 _⟩
    · have T16 := Lib.hid (to16_other (xs := xs) (by omega) (by omega))
      have T4 := Lib.hid (to4_other (xs := xs) (by omega) (by omega))
      have V1 := Lib.hid (show decide (n = 4 ∨ n = 16) = false by simp [v4, v16])
      clear hn v4 v16
      go_enter Tryd.func6, Tryd.ntmps6
      go_wp2_with fail
      refine (implTo16_any _ _ _ xs _ hv HN.out (by omega) (by exact ha)).mono ?_
      rintro e w1 ⟨A1, n1, c1, rfl, hn1, hown1, hb1⟩
      rw [T16.out] at hn1 hown1 ⊢
      obtain rfl : n1 = 0 := hn1.symm
      clear hn1
      go_wp2_with fail
      refine (implTo4_any _ _ _ xs _ HN.out (by omega) (by exact ha.below hb1)).mono ?_
      rintro e w2 ⟨A2, n2, c2, rfl, hn2, hown2, hb2⟩
      rw [T4.out] at hn2 hown2 ⊢
      obtain rfl : n2 = 0 := hn2.symm
      clear hn2
      go_wp2_with fail
      refine (valid_any _ _ _ _ false V1.out).mono ?_
      rintro e w0 ⟨rfl, rfl⟩
      go_wp2
      go_ret
      exact ⟨rfl, hb1.trans (hb2.mono hb1.size)⟩
end Go.Proofs.YtebnhhifodmkkaaDoor
