/-
  The walk of the law FnTextRoundTrip. No condition.
-/
import Derived.Test.YtkmjejgeeghjmaaDoorUnm
import Derived.Test.YtkmjejgeeghjmaaDoorMarshal
import Derived.Test.YtkmjejgeeghjmaaDoorSpecTo16
import Derived.Test.YtkmjejgeeghjmaaDoorValid
namespace Go.Proofs.YtkmjejgeeghjmaaDoor
open Go.RowKit
set_option linter.unusedVariables false

theorem walk_FnTextRoundTrip (A : Option Addr) (n c : Nat) (xs : List UInt8) (w : World) (hn : xs.length = n) (hc : n ≤ c) (hs : c ≤ 140737488351232) (ha : Rd w A xs) (hvars : ∃ p4 p6, ZF w p4 p6) :
    Calls Tryd.prog 3 #[.slice A n c] w fun e w' => e = .returned (.bool true) ∧ Below w.heap.size w w' := by
  obtain ⟨p4, p6, hz⟩ := hvars
  have HN := Lib.hid hn
  by_cases hv : n = 4 ∨ n = 16
  · have V := Lib.hid (show decide (n = 4 ∨ n = 16) = true by simpa using hv)
    have HV := Lib.hid hv
    have HRD := Lib.hid (reads_text (xs := xs) (by rw [hn]; exact hv))
    clear hv hn
    generalize (to16 xs).getD [] = out at HRD
    go_enter Tryd.func3, Tryd.ntmps3
    go_wp2_with fail
    refine (valid_any _ _ _ _ true V.out).mono ?_
    rintro e w1 ⟨rfl, rfl⟩
    go_wp2_with fail
    refine (specTo16_any _ _ _ xs _ HN.out (by exact ha)).mono ?_
    rintro e w1 ⟨A1, n1, c1, rfl, hn1, hown1, hb1⟩
    have HN1 := Lib.hid hn1
    clear hn1
    go_wp2_with fail
    refine (implMar_any _ _ _ xs p4 p6 _ (hz.below hb1) HN.out HV.out (by exact ha.below hb1)).mono ?_
    rintro e w2 ⟨rfl, hb2'⟩
    have hb2 := hb1.trans (hb2'.mono hb1.size)
    have HRD2 := Lib.hid (reads_text (xs := xs) (by rw [HN.out]; exact HV.out))
    generalize (to16 xs).getD [] = out2 at HRD2 HN1 hown1
    generalize ipText xs = T at HRD2 ⊢
    go_wp2_with fail
    refine (implUnm_any HRD2.out p4 p6 _ (hz.below hb2)).mono ?_
    rintro e w3 ⟨A3, n3, c3, rfl, hn3, hown3, hb3'⟩
    have hb3 := hb2.trans (hb3'.mono hb2.size)
    have HN3 := Lib.hid hn3
    clear hn3
    have L3 := HRD2.out.len
    have LE : n3 ≤ 9223372036854775807 := by have := HN3.out; simp only [Option.getD_some] at this; omega
    clear L3
    go_wp2_with fail
    refine (same_any _ _ _ _ _ _ out2 out2 _ HN3.out HN1.out (by exact Rd.of_own hown3) (by exact ((Rd.of_own hown1).below hb2').below hb3') LE true (eqb_true rfl)).mono ?_
    rintro e w4 ⟨rfl, k4, rfl⟩
    go_wp2
    go_ret
    exact ⟨rfl, below_drewN hb3 _⟩
  · have V := Lib.hid (show decide (n = 4 ∨ n = 16) = false by simpa using hv)
    clear hv hn
    go_enter Tryd.func3, Tryd.ntmps3
    go_wp2_with fail
    refine (valid_any _ _ _ _ false V.out).mono ?_
    rintro e w1 ⟨rfl, rfl⟩
    go_wp2
    go_ret
    exact ⟨rfl, Below.refl _ _⟩
end Go.Proofs.YtkmjejgeeghjmaaDoor
