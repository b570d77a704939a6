/-
  The walk of the law FnEqualStrings. No condition.
-/
import Derived.Test.YtjepkkfpgmgnjaaDoorEqual
import Derived.Test.YtjepkkfpgmgnjaaDoorTo16
import Derived.Test.YtjepkkfpgmgnjaaDoorIPString
import Derived.Test.YtjepkkfpgmgnjaaDoorTextP
import Derived.Test.YtjepkkfpgmgnjaaDoorValid
namespace Go.Proofs.YtjepkkfpgmgnjaaDoor
open Go.RowKit
set_option linter.unusedVariables false

theorem forms {xs : List UInt8} (h : xs.length = 4 ∨ xs.length = 16) : (∃ f, f.length = 4 ∧ ipText xs = dot4 f ∧ (to16 xs).getD [] = mp ++ f) ∨ (xs.length = 16 ∧ ipText xs = long (gr xs) ∧ (to16 xs).getD [] = xs ∧ xs.take 12 ≠ mp) := by
  rcases h with h | h
  · exact .inl ⟨xs, h, by unfold ipText; rw [to4_four h], by rw [to16_four h]; rfl⟩
  · by_cases hm : xs.take 12 = mp
    · refine .inl ⟨xs.drop 12, by simp [h], by unfold ipText; rw [to4_mapped h hm], ?_⟩
      rw [to16_six h, ← hm]
      simp
    · exact .inr ⟨h, by unfold ipText; rw [to4_six h hm], by rw [to16_six h]; rfl, hm⟩
theorem text_iff {xs ys : List UInt8} (h1 : xs.length = 4 ∨ xs.length = 16) (h2 : ys.length = 4 ∨ ys.length = 16) : ipText xs = ipText ys ↔ (to16 xs).getD [] = (to16 ys).getD [] := by
  rcases forms h1 with ⟨f, a1, a2, a3⟩ | ⟨a1, a2, a3, a4⟩ <;> rcases forms h2 with ⟨f', b1, b2, b3⟩ | ⟨b1, b2, b3, b4⟩
  · rw [a2, b2, a3, b3, List.append_cancel_left_eq]
    exact ⟨dot4_inj a1 b1, fun e => by rw [e]⟩
  · rw [a2, b2, a3, b3]
    constructor
    · intro e
      have := long_colon ys b1
      rw [← e] at this
      exact absurd rfl (dot4_clean f _ this).1
    · intro e
      exact absurd (by rw [← e]; rfl) b4
  · rw [a2, b2, a3, b3]
    constructor
    · intro e
      have := long_colon xs a1
      rw [e] at this
      exact absurd rfl (dot4_clean f' _ this).1
    · intro e
      exact absurd (by rw [e]; rfl) a4
  · rw [a2, b2, a3, b3]
    exact ⟨long_inj a1 b1, fun e => by rw [e]⟩
theorem to16_len {xs : List UInt8} (h : xs.length = 4 ∨ xs.length = 16) : ((to16 xs).getD []).length = 16 := by
  rcases h with h | h
  · rw [to16_four h]; simp [mp, h]
  · rw [to16_six h]; simp [h]
theorem ipEq_self16 {xs : List UInt8} (h : xs.length = 4 ∨ xs.length = 16) : ipEq xs ((to16 xs).getD []) = true ∧ ipEq ((to16 xs).getD []) xs = true := by
  have h2 := to16_len h
  have e : to16 ((to16 xs).getD []) = some ((to16 xs).getD []) := to16_six h2
  constructor
  · rw [← ipEq_to16 h (.inr h2), e]; exact eqb_true rfl
  · rw [← ipEq_to16 (.inr h2) h, e]; exact eqb_true rfl
theorem ipEq_comm {xs ys : List UInt8} (h1 : xs.length = 4 ∨ xs.length = 16) (h2 : ys.length = 4 ∨ ys.length = 16) : ipEq ys xs = ipEq xs ys := by
  rw [← ipEq_to16 h1 h2, ← ipEq_to16 h2 h1, eqb_comm]
theorem ipEq_text {xs ys : List UInt8} (h1 : xs.length = 4 ∨ xs.length = 16) (h2 : ys.length = 4 ∨ ys.length = 16) : ipEq xs ys = eqb (ipText xs) (ipText ys) := by
  rw [← ipEq_to16 h1 h2]
  unfold eqb
  rw [decide_eq_decide]
  exact (text_iff h1 h2).symm

set_option maxHeartbeats 1000000 in
theorem walk_FnEqualStrings (A : Option Addr) (n c : Nat) (xs : List UInt8) (B : Option Addr) (m d : Nat) (ys : List UInt8) (w : World) (hn : xs.length = n) (hc : n ≤ c) (hs : c ≤ 140737488351232) (ha : Rd w A xs) (hm : ys.length = m) (hd : m ≤ d) (hs2 : d ≤ 140737488351232) (hb : Rd w B ys) (hvars : V4 w ∧ ∃ p4 p6, ZF w p4 p6) :
    Calls Tryd.prog 11 #[.slice A n c, .slice B m d] w fun e w' => e = .returned (.bool true) ∧ Below w.heap.size w w' := by
  obtain ⟨hv4, p4, p6, hz⟩ := hvars
  have HN := Lib.hid hn
  have HM := Lib.hid hm
  clear hn hm
  by_cases hv : n = 4 ∨ n = 16
  · have V := Lib.hid (show decide (n = 4 ∨ n = 16) = true by simpa using hv)
    have HV := Lib.hid hv
    clear hv
    by_cases hu : m = 4 ∨ m = 16
    · have U := Lib.hid (show decide (m = 4 ∨ m = 16) = true by simpa using hu)
      have HU := Lib.hid hu
      clear hu
      have hv' : xs.length = 4 ∨ xs.length = 16 := by rw [HN.out]; exact HV.out
      have hu' : ys.length = 4 ∨ ys.length = 16 := by rw [HM.out]; exact HU.out
      have HL := Lib.hid (to16_len hv')
      have HS := Lib.hid (ipEq_self16 hv')
      have HT := Lib.hid (ipEq_text hv' hu')
      have HC := Lib.hid (ipEq_comm hv' hu')
      clear hv' hu'
      have go : ∀ r, ipEq xs ys = r → Calls Tryd.prog 11 #[.slice A n c, .slice B m d] w fun e w' => e = .returned (.bool true) ∧ Below w.heap.size w w' := by
        intro r hr
        have HR := Lib.hid hr
        have HR2 := Lib.hid (HC.out.trans hr)
        have HQ := Lib.hid (show (if r = true then ipText xs = ipText ys else ipText xs ≠ ipText ys) by
          have h := HT.out
          rw [hr] at h
          rcases r with _ | _
          · rw [if_neg (by simp)]; intro e; rw [eqb_true e] at h; cases h
          · rw [if_pos rfl]; unfold eqb at h; exact of_decide_eq_true h.symm)
        clear hr
        go_enter Tryd.func11, Tryd.ntmps11
        go_wp2_with fail
        refine (valid_any _ _ _ _ true V.out).mono ?_
        rintro e w1 ⟨rfl, rfl⟩
        go_wp2_with fail
        refine (valid_any _ _ _ _ true U.out).mono ?_
        rintro e w1 ⟨rfl, rfl⟩
        go_wp2_with fail
        refine (implTo16_any _ _ _ xs _ hv4 HN.out (by omega) (by exact ha)).mono ?_
        rintro e w1 ⟨A1, n1, c1, rfl, hn1, hown1, hb1⟩
        have HN1 := Lib.hid hn1
        have HL1 := Lib.hid (hn1.symm.trans HL.out)
        clear hn1
        go_wp2_with fail
        refine (implEqual_any _ _ _ _ _ _ xs ys _ (hv4.below hb1) HN.out HM.out (by exact ha.below hb1) (by exact hb.below hb1) HV.out HU.out r HR.out).mono ?_
        rintro e w2 ⟨rfl, hb2'⟩
        have hb2 := hb1.trans (hb2'.mono hb1.size)
        go_wp2_with fail
        refine (implString_any _ _ _ xs p4 p6 _ (hz.below hb2) HN.out HV.out (by exact ha.below hb2)).mono ?_
        rintro e w3 ⟨rfl, hb3'⟩
        have hb3 := hb2.trans (hb3'.mono hb2.size)
        go_wp2_with fail
        refine (implString_any _ _ _ ys p4 p6 _ (hz.below hb3) HM.out HU.out (by exact hb.below hb3)).mono ?_
        rintro e w4 ⟨rfl, hb4'⟩
        have hb4 := hb3.trans (hb4'.mono hb3.size)
        have hq := HQ.out
        clear HQ
        generalize ipText xs = T1 at hq ⊢
        generalize ipText ys = T2 at hq ⊢
        have rd1 := Lib.hid ((Rd.of_own hown1).below hb2')
        rcases r with _ | _
        · rw [if_neg (by simp)] at hq
          have hq2 : (T1 == T2) = false := by simpa using hq
          go_wp2_with fail
          refine (implEqual_any _ _ _ _ _ _ xs ys _ (hv4.below hb4) HN.out HM.out (by exact ha.below hb4) (by exact hb.below hb4) HV.out HU.out false HR.out).mono ?_
          rintro e w5 ⟨rfl, hb5'⟩
          have hb5 := hb4.trans (hb5'.mono hb4.size)
          go_wp2_with fail
          refine (implEqual_any _ _ _ _ _ _ ys xs _ (hv4.below hb5) HM.out HN.out (by exact hb.below hb5) (by exact ha.below hb5) HU.out HV.out false HR2.out).mono ?_
          rintro e w6 ⟨rfl, hb6'⟩
          have hb6 := hb5.trans (hb6'.mono hb5.size)
          have rd6 := Lib.hid ((((rd1.out.below hb3').below hb4').below hb5').below hb6')
          go_wp2_with fail
          refine (implEqual_any _ _ _ _ _ _ xs ((to16 xs).getD []) _ (hv4.below hb6) HN.out HN1.out (by exact ha.below hb6) (by exact rd6.out) HV.out (.inr HL1.out) true HS.out.1).mono ?_
          rintro e w7 ⟨rfl, hb7'⟩
          have hb7 := hb6.trans (hb7'.mono hb6.size)
          go_wp2_with fail
          refine (implEqual_any _ _ _ _ _ _ ((to16 xs).getD []) xs _ (hv4.below hb7) HN1.out HN.out (by exact rd6.out.below hb7') (by exact ha.below hb7) (.inr HL1.out) HV.out true HS.out.2).mono ?_
          rintro e w8 ⟨rfl, hb8'⟩
          go_wp2
          go_ret
          exact ⟨rfl, hb7.trans (hb8'.mono hb7.size)⟩
        · rw [if_pos rfl] at hq
          subst hq
          go_wp2_with fail
          refine (implEqual_any _ _ _ _ _ _ xs ys _ (hv4.below hb4) HN.out HM.out (by exact ha.below hb4) (by exact hb.below hb4) HV.out HU.out true HR.out).mono ?_
          rintro e w5 ⟨rfl, hb5'⟩
          have hb5 := hb4.trans (hb5'.mono hb4.size)
          go_wp2_with fail
          refine (implEqual_any _ _ _ _ _ _ ys xs _ (hv4.below hb5) HM.out HN.out (by exact hb.below hb5) (by exact ha.below hb5) HU.out HV.out true HR2.out).mono ?_
          rintro e w6 ⟨rfl, hb6'⟩
          have hb6 := hb5.trans (hb6'.mono hb5.size)
          have rd6 := Lib.hid ((((rd1.out.below hb3').below hb4').below hb5').below hb6')
          go_wp2_with fail
          refine (implEqual_any _ _ _ _ _ _ xs ((to16 xs).getD []) _ (hv4.below hb6) HN.out HN1.out (by exact ha.below hb6) (by exact rd6.out) HV.out (.inr HL1.out) true HS.out.1).mono ?_
          rintro e w7 ⟨rfl, hb7'⟩
          have hb7 := hb6.trans (hb7'.mono hb6.size)
          go_wp2_with fail
          refine (implEqual_any _ _ _ _ _ _ ((to16 xs).getD []) xs _ (hv4.below hb7) HN1.out HN.out (by exact rd6.out.below hb7') (by exact ha.below hb7) (.inr HL1.out) HV.out true HS.out.2).mono ?_
          rintro e w8 ⟨rfl, hb8'⟩
          go_wp2
          go_ret
          exact ⟨rfl, hb7.trans (hb8'.mono hb7.size)⟩
      exact go _ rfl
    · have U := Lib.hid (show decide (m = 4 ∨ m = 16) = false by simpa using hu)
      clear hu
      go_enter Tryd.func11, Tryd.ntmps11
      go_wp2_with fail
      refine (valid_any _ _ _ _ true V.out).mono ?_
      rintro e w1 ⟨rfl, rfl⟩
      go_wp2_with fail
      refine (valid_any _ _ _ _ false U.out).mono ?_
      rintro e w1 ⟨rfl, rfl⟩
      go_wp2
      go_ret
      exact ⟨rfl, Below.refl _ _⟩
  · have V := Lib.hid (show decide (n = 4 ∨ n = 16) = false by simpa using hv)
    clear hv
    go_enter Tryd.func11, Tryd.ntmps11
    go_wp2_with fail
    refine (valid_any _ _ _ _ false V.out).mono ?_
    rintro e w1 ⟨rfl, rfl⟩
    go_wp2
    go_ret
    exact ⟨rfl, Below.refl _ _⟩
end Go.Proofs.YtjepkkfpgmgnjaaDoor
