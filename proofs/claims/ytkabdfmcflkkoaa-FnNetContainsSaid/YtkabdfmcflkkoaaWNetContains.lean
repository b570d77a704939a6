/-
  The walk of the statement FnNetContains: it returns true and changes nothing that was there.
-/
import Derived.Test.YtkabdfmcflkkoaaContains
import Derived.Test.YtkabdfmcflkkoaaSpecTo4
import Derived.Test.YtkabdfmcflkkoaaValid
namespace Go.Proofs.Ytkabdfmcflkkoaa
open Go.RowKit
set_option linter.unusedVariables false

set_option maxHeartbeats 1000000 in
theorem FnNC_4 (A0 A1 A2 : Option Addr) (c0 c1 c2 : Nat) (x0 x1 x2 : List UInt8) (w : World) (hx0 : x0.length = 4) (hx1 : x1.length = 4) (hx2 : x2.length = 4) (hc0 : 4 ≤ c0) (hc1 : 4 ≤ c1) (hc2 : 4 ≤ c2) (rd0 : Rd w A0 x0) (rd1 : Rd w A1 x1) (rd2 : Rd w A2 x2) :
    Calls Try.prog 8 #[.slice A0 4 c0, .slice A1 4 c1, .slice A2 4 c2] w fun e w' => e = .returned (.bool true) ∧ Below w.heap.size w w' := by
  have HX := Lib.hid hx0
  have HM := Lib.hid hx1
  have HZ := Lib.hid hx2
  clear hx0 hx1 hx2
  go_enter Try.func8, Try.ntmps8
  go_wp2_with fail
  refine (valid_any _ 4 _ _ true (by decide)).mono ?_
  rintro e w0 ⟨rfl, rfl⟩
  go_wp2_with fail
  go_loopw [32] (fun i wr => ∃ k : Nat, k ≤ 2 ∧ i = .int .i64 k ∧ Below w.heap.size w wr ∧ w.heap.size < wr.heap.size ∧ wr.cell? ⟨w.heap.size, 0, none⟩ = some (.slice A0 4 c0) ∧ wr.cell? ⟨w.heap.size, 1, none⟩ = some (.slice A2 4 c2) ∧ Hid True) (fun i _ => 2 - (intOf i).toNat)
  case atStart => exact ⟨0, by decide, rfl, (Below.refl _ _).alloc (Nat.le_refl _) _, by simp, by simp, by simp, trivial⟩
  case round =>
    obtain ⟨k, hk, rfl, hb, hlt, q0, q1, HF⟩ := hrel
    rcases k with _ | _ | _ | k
    · have T0 := Lib.hid (to4_four HX.out)
      go_wp2_with fail
      refine (specTo4_any _ _ _ x0 _ HX.out hc0 (by exact rd0.below hb)).mono ?_
      rintro e w2 ⟨B2, n2, d2, rfl, hn2, hown2, hb2⟩
      rw [T0.out]
      clear hn2 hown2
      have hs2 := hb2.size
      have g0 := (hb2.cell (p := ⟨w.heap.size, 0, none⟩) hlt).trans q0
      have g1 := (hb2.cell (p := ⟨w.heap.size, 1, none⟩) hlt).trans q1
      go_wp2
      go_roundw
      case rel => exact ⟨1, by decide, rfl, hb.trans (hb2.mono hb.size), by omega, g0, g1, trivial⟩
      case measure => simp [intOf]
    · have T2 := Lib.hid (to4_four HZ.out)
      go_wp2_with fail
      refine (specTo4_any _ _ _ x2 _ HZ.out hc2 (by exact rd2.below hb)).mono ?_
      rintro e w2 ⟨B2, n2, d2, rfl, hn2, hown2, hb2⟩
      rw [T2.out]
      clear hn2 hown2
      have hs2 := hb2.size
      have g0 := (hb2.cell (p := ⟨w.heap.size, 0, none⟩) hlt).trans q0
      have g1 := (hb2.cell (p := ⟨w.heap.size, 1, none⟩) hlt).trans q1
      go_wp2
      go_roundw
      case rel => exact ⟨2, by decide, rfl, hb.trans (hb2.mono hb.size), by omega, g0, g1, trivial⟩
      case measure => simp [intOf]
    · go_wp2_with fail
      refine (implContains_4 A0 A1 A2 c0 c1 c2 x0 x1 x2 _ HX.out HM.out HZ.out (by exact rd0.below hb) (by exact rd1.below hb) (by exact rd2.below hb) _ rfl).mono ?_
      rintro e w2 ⟨rfl, hb2⟩
      have hb12 := hb.trans (hb2.mono hb.size)
      go_wp2_with fail
      refine (specAnd_any _ _ _ _ _ _ x0 x1 _ HX.out HM.out (by decide) (by exact rd0.below hb12) (by exact rd1.below hb12) (by decide)).mono ?_
      rintro e w3 ⟨B3, n3, d3, rfl, hn3, hown3, hb3⟩
      have hb13 := hb12.trans (hb3.mono hb12.size)
      have HN3 := Lib.hid hn3
      have h3 : n3 = 4 := by rw [← hn3, andL_length _ _ (by rw [HX.out, HM.out]; exact Nat.le_refl _)]; exact HX.out
      have l3 : n3 ≤ 9223372036854775807 := by omega
      clear hn3 h3
      go_wp2_with fail
      refine (specAnd_any _ _ _ _ _ _ x2 x1 _ HZ.out HM.out (by decide) (by exact rd2.below hb13) (by exact rd1.below hb13) (by decide)).mono ?_
      rintro e w4 ⟨B4, n4, d4, rfl, hn4, hown4, hb4⟩
      have hb14 := hb13.trans (hb4.mono hb13.size)
      have HN4 := Lib.hid hn4
      clear hn4
      go_wp2_with fail
      refine (same_any _ _ _ _ _ _ (andL x0 x1) (andL x2 x1) _ HN3.out HN4.out (by exact (Rd.of_own (xs := andL x0 x1) hown3).below hb4) (by exact Rd.of_own (xs := andL x2 x1) hown4) l3 _ rfl).mono ?_
      rintro e w5 ⟨rfl, k5, rfl⟩
      go_wp2
      go_ret
      exact ⟨ret_bool (by simp), below_drewN hb14 _⟩
    · omega

set_option maxHeartbeats 1000000 in
theorem FnNC_16 (A0 A1 A2 : Option Addr) (c0 c1 c2 : Nat) (x0 x1 x2 : List UInt8) (w : World) (hx0 : x0.length = 16) (hx1 : x1.length = 16) (hx2 : x2.length = 16) (hc0 : 16 ≤ c0) (hc1 : 16 ≤ c1) (hc2 : 16 ≤ c2) (rd0 : Rd w A0 x0) (rd1 : Rd w A1 x1) (rd2 : Rd w A2 x2) :
    Calls Try.prog 8 #[.slice A0 16 c0, .slice A1 16 c1, .slice A2 16 c2] w fun e w' => e = .returned (.bool true) ∧ Below w.heap.size w w' := by
  have HX := Lib.hid hx0
  have HM := Lib.hid hx1
  have HZ := Lib.hid hx2
  clear hx0 hx1 hx2
  go_enter Try.func8, Try.ntmps8
  go_wp2_with fail
  refine (valid_any _ 16 _ _ true (by decide)).mono ?_
  rintro e w0 ⟨rfl, rfl⟩
  go_wp2_with fail
  go_loopw [32] (fun i wr => ∃ k : Nat, k ≤ 2 ∧ i = .int .i64 k ∧ Below w.heap.size w wr ∧ w.heap.size < wr.heap.size ∧ wr.cell? ⟨w.heap.size, 0, none⟩ = some (.slice A0 16 c0) ∧ wr.cell? ⟨w.heap.size, 1, none⟩ = some (.slice A2 16 c2) ∧ Hid ((1 ≤ k → x0.take 12 ≠ mp) ∧ (2 ≤ k → x2.take 12 ≠ mp))) (fun i _ => 2 - (intOf i).toNat)
  case atStart => exact ⟨0, by decide, rfl, (Below.refl _ _).alloc (Nat.le_refl _) _, by simp, by simp, by simp, (fun h => by omega), (fun h => by omega)⟩
  case round =>
    obtain ⟨k, hk, rfl, hb, hlt, q0, q1, HF⟩ := hrel
    rcases k with _ | _ | _ | k
    · by_cases hm0 : x0.take 12 = mp
      · have T0 := Lib.hid (to4_mapped HX.out hm0)
        clear hm0
        go_wp2_with fail
        refine (specTo4_any _ _ _ x0 _ HX.out hc0 (by exact rd0.below hb)).mono ?_
        rintro e w2 ⟨B2, n2, d2, rfl, hn2, hown2, hb2⟩
        rw [T0.out]
        clear hn2 hown2
        go_wp2
        go_ret
        exact ⟨rfl, hb.trans (hb2.mono hb.size)⟩
      · have T0 := Lib.hid (to4_six HX.out hm0)
        have HM0 := Lib.hid hm0
        clear hm0
        go_wp2_with fail
        refine (specTo4_any _ _ _ x0 _ HX.out hc0 (by exact rd0.below hb)).mono ?_
        rintro e w2 ⟨B2, n2, d2, rfl, hn2, hown2, hb2⟩
        rw [T0.out]
        clear hn2 hown2
        have hs2 := hb2.size
        have g0 := (hb2.cell (p := ⟨w.heap.size, 0, none⟩) hlt).trans q0
        have g1 := (hb2.cell (p := ⟨w.heap.size, 1, none⟩) hlt).trans q1
        go_wp2
        go_roundw
        case rel => exact ⟨1, by decide, rfl, hb.trans (hb2.mono hb.size), by omega, g0, g1, (fun _ => HM0.out), (fun h => by omega)⟩
        case measure => simp [intOf]
    · by_cases hm2 : x2.take 12 = mp
      · have T2 := Lib.hid (to4_mapped HZ.out hm2)
        clear hm2
        go_wp2_with fail
        refine (specTo4_any _ _ _ x2 _ HZ.out hc2 (by exact rd2.below hb)).mono ?_
        rintro e w2 ⟨B2, n2, d2, rfl, hn2, hown2, hb2⟩
        rw [T2.out]
        clear hn2 hown2
        go_wp2
        go_ret
        exact ⟨rfl, hb.trans (hb2.mono hb.size)⟩
      · have T2 := Lib.hid (to4_six HZ.out hm2)
        have HM2 := Lib.hid hm2
        clear hm2
        go_wp2_with fail
        refine (specTo4_any _ _ _ x2 _ HZ.out hc2 (by exact rd2.below hb)).mono ?_
        rintro e w2 ⟨B2, n2, d2, rfl, hn2, hown2, hb2⟩
        rw [T2.out]
        clear hn2 hown2
        have hs2 := hb2.size
        have g0 := (hb2.cell (p := ⟨w.heap.size, 0, none⟩) hlt).trans q0
        have g1 := (hb2.cell (p := ⟨w.heap.size, 1, none⟩) hlt).trans q1
        go_wp2
        go_roundw
        case rel => exact ⟨2, by decide, rfl, hb.trans (hb2.mono hb.size), by omega, g0, g1, (fun _ => HF.out.1 (Nat.le_refl _)), (fun _ => HM2.out)⟩
        case measure => simp [intOf]
    · go_wp2_with fail
      refine (implContains_16 A0 A1 A2 c0 c1 c2 x0 x1 x2 _ HX.out HM.out HZ.out (HF.out.1 (by decide)) (HF.out.2 (by decide)) (by exact rd0.below hb) (by exact rd1.below hb) (by exact rd2.below hb) _ rfl).mono ?_
      rintro e w2 ⟨rfl, hb2⟩
      have hb12 := hb.trans (hb2.mono hb.size)
      go_wp2_with fail
      refine (specAnd_any _ _ _ _ _ _ x0 x1 _ HX.out HM.out (by decide) (by exact rd0.below hb12) (by exact rd1.below hb12) (by decide)).mono ?_
      rintro e w3 ⟨B3, n3, d3, rfl, hn3, hown3, hb3⟩
      have hb13 := hb12.trans (hb3.mono hb12.size)
      have HN3 := Lib.hid hn3
      have h3 : n3 = 16 := by rw [← hn3, andL_length _ _ (by rw [HX.out, HM.out]; exact Nat.le_refl _)]; exact HX.out
      have l3 : n3 ≤ 9223372036854775807 := by omega
      clear hn3 h3
      go_wp2_with fail
      refine (specAnd_any _ _ _ _ _ _ x2 x1 _ HZ.out HM.out (by decide) (by exact rd2.below hb13) (by exact rd1.below hb13) (by decide)).mono ?_
      rintro e w4 ⟨B4, n4, d4, rfl, hn4, hown4, hb4⟩
      have hb14 := hb13.trans (hb4.mono hb13.size)
      have HN4 := Lib.hid hn4
      clear hn4
      go_wp2_with fail
      refine (same_any _ _ _ _ _ _ (andL x0 x1) (andL x2 x1) _ HN3.out HN4.out (by exact (Rd.of_own (xs := andL x0 x1) hown3).below hb4) (by exact Rd.of_own (xs := andL x2 x1) hown4) l3 _ rfl).mono ?_
      rintro e w5 ⟨rfl, k5, rfl⟩
      go_wp2
      go_ret
      exact ⟨ret_bool (by simp), below_drewN hb14 _⟩
    · omega

set_option maxHeartbeats 400000 in
theorem walk_FnNetContains (A0 : Option Addr) (n0 c0 : Nat) (x0 : List UInt8) (A1 : Option Addr) (n1 c1 : Nat) (x1 : List UInt8) (A2 : Option Addr) (n2 c2 : Nat) (x2 : List UInt8) (w : World) (hn0 : x0.length = n0) (hc0 : n0 ≤ c0) (hs0 : c0 ≤ 140737488351232) (rd0 : Rd w A0 x0) (hn1 : x1.length = n1) (hc1 : n1 ≤ c1) (hs1 : c1 ≤ 140737488351232) (rd1 : Rd w A1 x1) (hn2 : x2.length = n2) (hc2 : n2 ≤ c2) (hs2 : c2 ≤ 140737488351232) (rd2 : Rd w A2 x2) :
    Calls Try.prog 8 #[.slice A0 n0 c0, .slice A1 n1 c1, .slice A2 n2 c2] w fun e w' => e = .returned (.bool true) ∧ Below w.heap.size w w' := by
  by_cases hv : n2 = 4 ∨ n2 = 16
  · by_cases h0 : n0 = n2
    · by_cases h1 : n1 = n2
      · subst h0
        subst h1
        rcases hv with rfl | rfl
        · exact FnNC_4 A0 A1 A2 c0 c1 c2 x0 x1 x2 w hn0 hn1 hn2 hc0 hc1 hc2 rd0 rd1 rd2
        · exact FnNC_16 A0 A1 A2 c0 c1 c2 x0 x1 x2 w hn0 hn1 hn2 hc0 hc1 hc2 rd0 rd1 rd2
      · have V := Lib.hid (show decide (n2 = 4 ∨ n2 = 16) = true by simpa using hv)
        have t0 : ((n0 : Int) != (n2 : Int)) = false := by simp [h0]
        have t1 : ((n1 : Int) != (n2 : Int)) = true := by simp; omega
        clear hv h0 h1 hn0 hn1 hn2
        go_enter Try.func8, Try.ntmps8
        go_wp2_with fail
        refine (valid_any _ _ _ _ true V.out).mono ?_
        rintro e w0 ⟨rfl, rfl⟩
        go_wp2
        go_ret
        exact ⟨rfl, Below.refl _ _⟩
    · have V := Lib.hid (show decide (n2 = 4 ∨ n2 = 16) = true by simpa using hv)
      have t0 : ((n0 : Int) != (n2 : Int)) = true := by simp; omega
      clear hv h0 hn0 hn1 hn2
      go_enter Try.func8, Try.ntmps8
      go_wp2_with fail
      refine (valid_any _ _ _ _ true V.out).mono ?_
      rintro e w0 ⟨rfl, rfl⟩
      go_wp2
      go_ret
      exact ⟨rfl, Below.refl _ _⟩
  · have V := Lib.hid (show decide (n2 = 4 ∨ n2 = 16) = false by simpa using hv)
    clear hv hn0 hn1 hn2
    go_enter Try.func8, Try.ntmps8
    go_wp2_with fail
    refine (valid_any _ _ _ _ false V.out).mono ?_
    rintro e w0 ⟨rfl, rfl⟩
    go_wp2
    go_ret
    exact ⟨rfl, Below.refl _ _⟩
end Go.Proofs.Ytkabdfmcflkkoaa
