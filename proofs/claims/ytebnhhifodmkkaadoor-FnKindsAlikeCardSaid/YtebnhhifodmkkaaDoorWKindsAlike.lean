/-
  The walk of the statement FnKindsAlike: it returns true and changes nothing that was there.
-/
import Derived.Test.YtebnhhifodmkkaaDoorTo16
import Derived.Test.YtebnhhifodmkkaaDoorKinds
import Derived.Test.YtebnhhifodmkkaaDoorEqual
namespace Go.Proofs.YtebnhhifodmkkaaDoor
open Go.RowKit
set_option linter.unusedVariables false

theorem kindOf_16 (f4 f6 : UInt8 → UInt8 → Bool) (xs : List UInt8) (h : xs.length = 4 ∨ xs.length = 16) : kindOf f4 f6 ((to16 xs).getD []) = kindOf f4 f6 xs := by
  rcases h with h | h
  · have e1 : to4 (mp ++ xs) = some xs := by
      rw [to4_mapped (by simp [mp, h]) (by simp [mp])]
      simp [mp]
    simp only [to16_four h, Option.getD_some, kindOf, e1, to4_four h]
  · simp [to16_six h]

theorem one4 (y0 y1 : UInt8) : (pr4 y0 y1).toNat + (mc4 y0 y1).toNat + (ll4 y0 y1).toNat ≤ 1 := by
  by_cases h10 : y0 = 10
  · subst h10; simp [pr4, mc4, ll4]; decide
  by_cases h172 : y0 = 172
  · subst h172; simp only [pr4, mc4, ll4]; by_cases h : y1 &&& 240 == 16 <;> simp [h] <;> decide
  by_cases h192 : y0 = 192
  · subst h192; simp only [pr4, mc4, ll4]; by_cases h : y1 == 168 <;> simp [h] <;> decide
  by_cases h169 : y0 = 169
  · subst h169; simp only [pr4, mc4, ll4]; by_cases h : y1 == 254 <;> simp [h] <;> decide
  have e1 : pr4 y0 y1 = false := by simp [pr4, h10, h172, h192]
  have e2 : ll4 y0 y1 = false := by simp [ll4, h169]
  rw [e1, e2]
  have := Bool.toNat_le (mc4 y0 y1)
  simpa using this
theorem one6 (x0 x1 : UInt8) : (pr6 x0 x1).toNat + (mc6 x0 x1).toNat + (ll6 x0 x1).toNat ≤ 1 := by
  by_cases h255 : x0 = 255
  · subst h255; simp [pr6, mc6, ll6]; decide
  by_cases h254 : x0 = 254
  · subst h254; simp only [pr6, mc6, ll6]; by_cases h : x1 &&& 192 == 128 <;> simp [h]
  have e1 : mc6 x0 x1 = false := by simp [mc6, h255]
  have e2 : ll6 x0 x1 = false := by simp [ll6, h254]
  rw [e1, e2]
  have := Bool.toNat_le (pr6 x0 x1)
  simpa using this
theorem one_kind (xs : List UInt8) : (kindOf pr4 pr6 xs).toNat + (kindOf mc4 mc6 xs).toNat + (kindOf ll4 ll6 xs).toNat ≤ 1 := by
  unfold kindOf
  rcases to4 xs with _ | ys
  · exact one6 _ _
  · exact one4 _ _

set_option maxHeartbeats 1000000 in
theorem walk_FnKindsAlike (A : Option Addr) (n c : Nat) (xs : List UInt8) (w : World) (hn : xs.length = n) (hc : n ≤ c) (hs : c ≤ 140737488351232) (ha : Rd w A xs) (hv : V4 w) :
    Calls Tryd.prog 7 #[.slice A n c] w fun e w' => e = .returned (.bool true) ∧ Below w.heap.size w w' := by
  have HN := Lib.hid hn
  by_cases v1 : n = 4 ∨ n = 16
  · have V1 := Lib.hid (show decide (n = 4 ∨ n = 16) = true by simpa using v1)
    have W1 := Lib.hid v1
    have hxs : xs.length = 4 ∨ xs.length = 16 := by omega
    have K1 := Lib.hid (kindOf_16 pr4 pr6 xs hxs)
    have K2 := Lib.hid (kindOf_16 mc4 mc6 xs hxs)
    have K3 := Lib.hid (kindOf_16 ll4 ll6 xs hxs)
    have S16 := Lib.hid (show (to16 xs).isSome = true by rcases hxs with h | h <;> simp [to16, h])
    have L16 := Lib.hid (show ((to16 xs).getD []).length = 16 by rcases hxs with h | h <;> simp [to16, h, mp])
    have hone := one_kind xs
    obtain ⟨p, hp⟩ : ∃ p, kindOf pr4 pr6 xs = p := ⟨_, rfl⟩
    obtain ⟨m, hm⟩ : ∃ p, kindOf mc4 mc6 xs = p := ⟨_, rfl⟩
    obtain ⟨l, hl⟩ : ∃ p, kindOf ll4 ll6 xs = p := ⟨_, rfl⟩
    rw [hp, hm, hl] at hone
    have HP := Lib.hid hp
    have HM := Lib.hid hm
    have HL := Lib.hid hl
    have KP := Lib.hid (K1.out.trans hp)
    have KM := Lib.hid (K2.out.trans hm)
    have KL := Lib.hid (K3.out.trans hl)
    clear hn v1 hp hm hl hxs K1 K2 K3
    cases p <;> cases m <;> cases l
    all_goals first | exact absurd hone (by decide) | skip
    all_goals clear hone
    all_goals
      go_enter Tryd.func7, Tryd.ntmps7
      go_wp2_with fail
      refine (valid_any _ _ _ _ true V1.out).mono ?_
      rintro e w0 ⟨rfl, rfl⟩
      go_wp2_with fail
      refine (implTo16_any _ _ _ xs _ hv HN.out (by omega) (by exact ha)).mono ?_
      rintro e w1 ⟨A1, n1, c1, rfl, hn1, hown1, hb1⟩
      rw [S16.out]
      obtain rfl : n1 = 16 := by rw [← hn1]; exact L16.out
      clear hn1
      go_wp2_with fail
      refine (implPr_any _ _ _ xs _ HN.out (by exact ha.below hb1) W1.out _ HP.out).mono ?_
      rintro e w2 ⟨rfl, hb2⟩
      have hb12 := hb1.trans (hb2.mono hb1.size)
      go_wp2_with fail
      refine (implMc_any _ _ _ xs _ HN.out (by exact ha.below hb12) W1.out _ HM.out).mono ?_
      rintro e w3 ⟨rfl, hb3⟩
      have hb13 := hb12.trans (hb3.mono hb12.size)
      go_wp2_with fail
      refine (implLl_any _ _ _ xs _ HN.out (by exact ha.below hb13) W1.out _ HL.out).mono ?_
      rintro e w4 ⟨rfl, hb4⟩
      have hb14 := hb13.trans (hb4.mono hb13.size)
      have hr16 : Rd w4 A1 ((to16 xs).getD []) := (((Rd.of_own hown1).below hb2).below hb3).below hb4
      have hrx := ha.below hb14
      go_wp2
      refine wp_loop_rounds 4 ?_
      rw [rounds_succ]
      go_wp2_with fail
      rw [rounds_succ]
      go_wp2_with fail
      rw [rounds_succ]
      go_wp2_with fail
      rw [rounds_succ]
      go_wp2_with fail
      refine (implPr_any _ _ _ xs _ HN.out (by exact hrx.alloc _) W1.out _ HP.out).mono ?_
      rintro e w5 ⟨rfl, hb5⟩
      have hb15 := (hb14.alloc hb14.size _).trans (hb5.mono (by have := hb14.size; simp; omega))
      have hr5 := (hr16.alloc _).below hb5
      have hx5 := (hrx.alloc _).below hb5
      clear hb5
      go_wp2_with fail
      refine (implPr_any _ 16 _ ((to16 xs).getD []) _ L16.out (by exact hr5) (.inr rfl) _ KP.out).mono ?_
      rintro e w6 ⟨rfl, hb6⟩
      have hb16 := hb15.trans (hb6.mono hb15.size)
      have hr6 := hr5.below hb6
      have hx6 := hx5.below hb6
      clear hb6
      go_wp2_with fail
      refine (implMc_any _ _ _ xs _ HN.out (by exact hx6) W1.out _ HM.out).mono ?_
      rintro e w7 ⟨rfl, hb7⟩
      have hb17 := hb16.trans (hb7.mono hb16.size)
      have hr7 := hr6.below hb7
      have hx7 := hx6.below hb7
      clear hb7
      go_wp2_with fail
      refine (implMc_any _ 16 _ ((to16 xs).getD []) _ L16.out (by exact hr7) (.inr rfl) _ KM.out).mono ?_
      rintro e w8 ⟨rfl, hb8⟩
      have hb18 := hb17.trans (hb8.mono hb17.size)
      have hr8 := hr7.below hb8
      have hx8 := hx7.below hb8
      clear hb8
      go_wp2_with fail
      refine (implLl_any _ _ _ xs _ HN.out (by exact hx8) W1.out _ HL.out).mono ?_
      rintro e w9 ⟨rfl, hb9⟩
      have hb19 := hb18.trans (hb9.mono hb18.size)
      have hr9 := hr8.below hb9
      clear hb9
      go_wp2_with fail
      refine (implLl_any _ 16 _ ((to16 xs).getD []) _ L16.out (by exact hr9) (.inr rfl) _ KL.out).mono ?_
      rintro e w10 ⟨rfl, hb10⟩
      have hb20 := hb19.trans (hb10.mono hb19.size)
      go_wp2
      go_ret
      exact ⟨rfl, hb20⟩
  · have V1 := Lib.hid (show decide (n = 4 ∨ n = 16) = false by simpa using v1)
    clear hn v1
    go_enter Tryd.func7, Tryd.ntmps7
    go_wp2_with fail
    refine (valid_any _ _ _ _ false V1.out).mono ?_
    rintro e w0 ⟨rfl, rfl⟩
    go_wp2
    go_ret
    exact ⟨rfl, Below.refl _ _⟩
end Go.Proofs.YtebnhhifodmkkaaDoor
