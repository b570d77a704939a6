/-
  The walk of the law FnRoadsContain. No condition.
-/
import Derived.Test.YtjepkkfpgmgnjaaDoorPfxC
import Derived.Test.YtjepkkfpgmgnjaaDoorMask
import Derived.Test.YtjepkkfpgmgnjaaDoorCidr
import Derived.Test.YtjepkkfpgmgnjaaDoorSpecTo4
import Derived.Test.YtjepkkfpgmgnjaaDoorValid
import Derived.OpenShut
namespace Go.Proofs.YtjepkkfpgmgnjaaDoor
open Go.RowKit
set_option linter.unusedVariables false

theorem implCIDR_okM (n l : Nat) (M : List UInt8) (w : World) (hl : l = 4 ∨ l = 16) (hn : n ≤ 8 * l) (hM : M = cidr l n) (o b : Int) (ho : o = (n : Int)) (hb : b = 8 * (l : Int)) :
    Calls Tryd.prog 20 #[.int .i64 o, .int .i64 b] w fun e w' => OwnOpt 5 w (some M) e w' := by
  subst hM
  exact implCIDR_ok n l w hl hn o b ho hb

set_option maxRecDepth 100000 in
set_option maxHeartbeats 4000000 in
theorem FnRC_4 (A0 A2 : Option Addr) (c0 c2 n : Nat) (x0 x2 : List UInt8) (w : World) (hx0 : x0.length = 4) (hx2 : x2.length = 4) (hc0 : 4 ≤ c0) (hc2 : 4 ≤ c2) (rd0 : Rd w A0 x0) (rd2 : Rd w A2 x2) (hv4 : V4 w) (p4 p6 : Addr) (hz : ZF w p4 p6) (hn : n ≤ 32) :
    Calls Tryd.prog 4 #[.slice A0 4 c0, .int .i64 (n : Int), .slice A2 4 c2] w fun e w' => e = .returned (.bool true) ∧ Below w.heap.size w w' := by
  have HX := Lib.hid hx0
  have HZ := Lib.hid hx2
  have HS := Lib.hid (show eqb (andL x0 (cidr 4 n)) (andL x2 (cidr 4 n)) = pfx x2 x0 n by rw [eqb_comm]; exact mask_pfx hx2 hx0 (by omega))
  have HL0 := Lib.hid (show maskL x0 (cidr 4 n) = some (andL x0 (cidr 4 n)) from maskL_same (by rw [hx0, cidr_length]))
  have HL2 := Lib.hid (show maskL x2 (cidr 4 n) = some (andL x2 (cidr 4 n)) from maskL_same (by rw [hx2, cidr_length]))
  have HA0 := Lib.hid (show (andL x0 (cidr 4 n)).length = 4 by rw [andL_length _ _ (by rw [hx0, cidr_length]; exact Nat.le_refl _)]; exact hx0)
  have HCL := Lib.hid (cidr_length 4 n)
  have hn1 : (n : Int) ≤ 32 := by omega
  clear hx0 hx2
  obtain ⟨MK, hMK⟩ : ∃ MK, MK = cidr 4 n := ⟨_, rfl⟩
  rw [← hMK] at HS HL0 HL2 HA0 HCL
  have HMK := Lib.hid hMK
  clear hMK
  go_enter Tryd.func4, Tryd.ntmps4
  go_wp2_with fail
  refine (valid_any _ 4 _ _ true (by decide)).mono ?_
  rintro e w0 ⟨rfl, rfl⟩
  go_wp2_with fail
  go_loopw [44] (fun i wr => ∃ k : Nat, k ≤ 2 ∧ i = .int .i64 k ∧ Below w.heap.size w wr ∧ w.heap.size < wr.heap.size ∧ wr.cell? ⟨w.heap.size, 0, none⟩ = some (.slice A0 4 c0) ∧ wr.cell? ⟨w.heap.size, 1, none⟩ = some (.slice A2 4 c2) ∧ Hid True) (fun i _ => 2 - (intOf i).toNat)
  case atStart => exact ⟨0, by decide, rfl, (Below.refl _ _).alloc (Nat.le_refl _) _, by simp, by simp, by simp, trivial⟩
  case round =>
    obtain ⟨k, hk, rfl, hb, hlt, q0, q1, HF⟩ := hrel
    rcases k with _ | _ | _ | k
    · have T0 := Lib.hid (to4_four HX.out)
      go_wp2_with fail
      refine (specTo4_any _ _ _ x0 _ HX.out hc0 (by exact rd0.below hb)).mono ?_
      rintro e w2 ⟨B2, n2, d2, rfl, hn2, hown2, hb2⟩
      rw [T0.out]
      clear hn2 hown2
      have hs2 := hb2.size
      have g0 := (hb2.cell (p := ⟨w.heap.size, 0, none⟩) hlt).trans q0
      have g1 := (hb2.cell (p := ⟨w.heap.size, 1, none⟩) hlt).trans q1
      go_wp2
      go_roundw
      case rel => exact ⟨1, by decide, rfl, hb.trans (hb2.mono hb.size), by omega, g0, g1, trivial⟩
      case measure => simp [intOf]
    · have T2 := Lib.hid (to4_four HZ.out)
      go_wp2_with fail
      refine (specTo4_any _ _ _ x2 _ HZ.out hc2 (by exact rd2.below hb)).mono ?_
      rintro e w2 ⟨B2, n2, d2, rfl, hn2, hown2, hb2⟩
      rw [T2.out]
      clear hn2 hown2
      have hs2 := hb2.size
      have g0 := (hb2.cell (p := ⟨w.heap.size, 0, none⟩) hlt).trans q0
      have g1 := (hb2.cell (p := ⟨w.heap.size, 1, none⟩) hlt).trans q1
      go_wp2
      go_roundw
      case rel => exact ⟨2, by decide, rfl, hb.trans (hb2.mono hb.size), by omega, g0, g1, trivial⟩
      case measure => simp [intOf]
    · go_wp2_with fail
      refine (implCIDR_okM n 4 MK _ (by decide) hn HMK.out _ _ rfl rfl).mono ?_
      rintro e w2 ⟨M2, n2, d2, rfl, hn2, hown2, hb2⟩
      simp only [Option.isSome_some]
      have hb12 := hb.trans (hb2.mono hb.size)
      obtain rfl : n2 = 4 := by rw [← hn2]; exact HCL.out
      clear hn2
      have rdm := Rd.of_own (xs := MK) hown2
      go_wp2_with fail
      refine (implMask_any _ _ _ _ _ _ x0 MK _ (hv4.below hb12) HX.out HCL.out (by exact rd0.below hb12) (by exact rdm) (by decide) (by decide)).mono ?_
      rintro e w3 ⟨B3, n3, d3, rfl, hn3, hown3, hb3⟩
      have hb13 := hb12.trans (hb3.mono hb12.size)
      rw [HL0.out] at hn3 hown3 ⊢
      have HN3 := Lib.hid hn3
      clear hn3
      go_wp2_with fail
      refine (implMask_any _ _ _ _ _ _ x2 MK _ (hv4.below hb13) HZ.out HCL.out (by exact rd2.below hb13) (by exact rdm.below hb3) (by decide) (by decide)).mono ?_
      rintro e w4 ⟨B4, n4, d4, rfl, hn4, hown4, hb4⟩
      have hb14 := hb13.trans (hb4.mono hb13.size)
      rw [HL2.out] at hn4 hown4 ⊢
      have HN4 := Lib.hid hn4
      clear hn4
      go_wp2_with fail
      refine (roadC_4 _ _ _ _ n x0 x2 p4 p6 _ (hz.below hb14) HX.out HZ.out (by exact rd0.below hb14) (by exact rd2.below hb14) hn).mono ?_
      rintro e w5 ⟨rfl, hb5⟩
      have hb15 := hb14.trans (hb5.mono hb14.size)
      have l3 : n3 ≤ 9223372036854775807 := by have h := HN3.out; simp only [Option.getD_some] at h; have := HA0.out; omega
      generalize pfx x2 x0 n = R at HS ⊢
      go_wp2_with fail
      refine (same_any _ _ _ _ _ _ (andL x0 MK) (andL x2 MK) _ HN3.out HN4.out (by exact ((Rd.of_own (xs := andL x0 MK) hown3).below hb4).below hb5) (by exact (Rd.of_own (xs := andL x2 MK) hown4).below hb5) l3 R HS.out).mono ?_
      rintro e w6 ⟨rfl, k6, rfl⟩
      go_wp2
      go_ret
      exact ⟨ret_bool (by simp), below_drewN hb15 _⟩
    · omega

set_option maxRecDepth 100000 in
set_option maxHeartbeats 4000000 in
theorem FnRC_16 (A0 A2 : Option Addr) (c0 c2 n : Nat) (x0 x2 : List UInt8) (w : World) (hx0 : x0.length = 16) (hx2 : x2.length = 16) (hc0 : 16 ≤ c0) (hc2 : 16 ≤ c2) (rd0 : Rd w A0 x0) (rd2 : Rd w A2 x2) (hv4 : V4 w) (p4 p6 : Addr) (hz : ZF w p4 p6) (hn : n ≤ 128) :
    Calls Tryd.prog 4 #[.slice A0 16 c0, .int .i64 (n : Int), .slice A2 16 c2] w fun e w' => e = .returned (.bool true) ∧ Below w.heap.size w w' := by
  have HX := Lib.hid hx0
  have HZ := Lib.hid hx2
  have HS := Lib.hid (show eqb (andL x0 (cidr 16 n)) (andL x2 (cidr 16 n)) = pfx x2 x0 n by rw [eqb_comm]; exact mask_pfx hx2 hx0 (by omega))
  have HL0 := Lib.hid (show maskL x0 (cidr 16 n) = some (andL x0 (cidr 16 n)) from maskL_same (by rw [hx0, cidr_length]))
  have HL2 := Lib.hid (show maskL x2 (cidr 16 n) = some (andL x2 (cidr 16 n)) from maskL_same (by rw [hx2, cidr_length]))
  have HA0 := Lib.hid (show (andL x0 (cidr 16 n)).length = 16 by rw [andL_length _ _ (by rw [hx0, cidr_length]; exact Nat.le_refl _)]; exact hx0)
  have HCL := Lib.hid (cidr_length 16 n)
  have hn1 : (n : Int) ≤ 128 := by omega
  clear hx0 hx2
  obtain ⟨MK, hMK⟩ : ∃ MK, MK = cidr 16 n := ⟨_, rfl⟩
  rw [← hMK] at HS HL0 HL2 HA0 HCL
  have HMK := Lib.hid hMK
  clear hMK
  go_enter Tryd.func4, Tryd.ntmps4
  go_wp2_with fail
  refine (valid_any _ 16 _ _ true (by decide)).mono ?_
  rintro e w0 ⟨rfl, rfl⟩
  go_wp2_with fail
  go_loopw [44] (fun i wr => ∃ k : Nat, k ≤ 2 ∧ i = .int .i64 k ∧ Below w.heap.size w wr ∧ w.heap.size < wr.heap.size ∧ wr.cell? ⟨w.heap.size, 0, none⟩ = some (.slice A0 16 c0) ∧ wr.cell? ⟨w.heap.size, 1, none⟩ = some (.slice A2 16 c2) ∧ Hid ((1 ≤ k → x0.take 12 ≠ mp) ∧ (2 ≤ k → x2.take 12 ≠ mp))) (fun i _ => 2 - (intOf i).toNat)
  case atStart => exact ⟨0, by decide, rfl, (Below.refl _ _).alloc (Nat.le_refl _) _, by simp, by simp, by simp, (fun h => by omega), (fun h => by omega)⟩
  case round =>
    obtain ⟨k, hk, rfl, hb, hlt, q0, q1, HF⟩ := hrel
    rcases k with _ | _ | _ | k
    · by_cases hm0 : x0.take 12 = mp
      · have T0 := Lib.hid (to4_mapped HX.out hm0)
        clear hm0
        go_wp2_with fail
        refine (specTo4_any _ _ _ x0 _ HX.out hc0 (by exact rd0.below hb)).mono ?_
        rintro e w2 ⟨B2, n2, d2, rfl, hn2, hown2, hb2⟩
        rw [T0.out]
        clear hn2 hown2
        go_wp2
        go_ret
        exact ⟨rfl, hb.trans (hb2.mono hb.size)⟩
      · have T0 := Lib.hid (to4_six HX.out hm0)
        have HM0 := Lib.hid hm0
        clear hm0
        go_wp2_with fail
        refine (specTo4_any _ _ _ x0 _ HX.out hc0 (by exact rd0.below hb)).mono ?_
        rintro e w2 ⟨B2, n2, d2, rfl, hn2, hown2, hb2⟩
        rw [T0.out]
        clear hn2 hown2
        have hs2 := hb2.size
        have g0 := (hb2.cell (p := ⟨w.heap.size, 0, none⟩) hlt).trans q0
        have g1 := (hb2.cell (p := ⟨w.heap.size, 1, none⟩) hlt).trans q1
        go_wp2
        go_roundw
        case rel => exact ⟨1, by decide, rfl, hb.trans (hb2.mono hb.size), by omega, g0, g1, (fun _ => HM0.out), (fun h => by omega)⟩
        case measure => simp [intOf]
    · by_cases hm2 : x2.take 12 = mp
      · have T2 := Lib.hid (to4_mapped HZ.out hm2)
        clear hm2
        go_wp2_with fail
        refine (specTo4_any _ _ _ x2 _ HZ.out hc2 (by exact rd2.below hb)).mono ?_
        rintro e w2 ⟨B2, n2, d2, rfl, hn2, hown2, hb2⟩
        rw [T2.out]
        clear hn2 hown2
        go_wp2
        go_ret
        exact ⟨rfl, hb.trans (hb2.mono hb.size)⟩
      · have T2 := Lib.hid (to4_six HZ.out hm2)
        have HM2 := Lib.hid hm2
        clear hm2
        go_wp2_with fail
        refine (specTo4_any _ _ _ x2 _ HZ.out hc2 (by exact rd2.below hb)).mono ?_
        rintro e w2 ⟨B2, n2, d2, rfl, hn2, hown2, hb2⟩
        rw [T2.out]
        clear hn2 hown2
        have hs2 := hb2.size
        have g0 := (hb2.cell (p := ⟨w.heap.size, 0, none⟩) hlt).trans q0
        have g1 := (hb2.cell (p := ⟨w.heap.size, 1, none⟩) hlt).trans q1
        go_wp2
        go_roundw
        case rel => exact ⟨2, by decide, rfl, hb.trans (hb2.mono hb.size), by omega, g0, g1, (fun _ => HF.out.1 (Nat.le_refl _)), (fun _ => HM2.out)⟩
        case measure => simp [intOf]
    · go_wp2_with fail
      refine (implCIDR_okM n 16 MK _ (by decide) hn HMK.out _ _ rfl rfl).mono ?_
      rintro e w2 ⟨M2, n2, d2, rfl, hn2, hown2, hb2⟩
      simp only [Option.isSome_some]
      have hb12 := hb.trans (hb2.mono hb.size)
      obtain rfl : n2 = 16 := by rw [← hn2]; exact HCL.out
      clear hn2
      have rdm := Rd.of_own (xs := MK) hown2
      go_wp2_with fail
      refine (implMask_any _ _ _ _ _ _ x0 MK _ (hv4.below hb12) HX.out HCL.out (by exact rd0.below hb12) (by exact rdm) (by decide) (by decide)).mono ?_
      rintro e w3 ⟨B3, n3, d3, rfl, hn3, hown3, hb3⟩
      have hb13 := hb12.trans (hb3.mono hb12.size)
      rw [HL0.out] at hn3 hown3 ⊢
      have HN3 := Lib.hid hn3
      clear hn3
      go_wp2_with fail
      refine (implMask_any _ _ _ _ _ _ x2 MK _ (hv4.below hb13) HZ.out HCL.out (by exact rd2.below hb13) (by exact rdm.below hb3) (by decide) (by decide)).mono ?_
      rintro e w4 ⟨B4, n4, d4, rfl, hn4, hown4, hb4⟩
      have hb14 := hb13.trans (hb4.mono hb13.size)
      rw [HL2.out] at hn4 hown4 ⊢
      have HN4 := Lib.hid hn4
      clear hn4
      go_wp2_with fail
      refine (roadC_6 _ _ _ _ n x0 x2 p4 p6 _ (hz.below hb14) HX.out HZ.out (by exact rd0.below hb14) (by exact rd2.below hb14) hn).mono ?_
      rintro e w5 ⟨rfl, hb5⟩
      have hb15 := hb14.trans (hb5.mono hb14.size)
      have l3 : n3 ≤ 9223372036854775807 := by have h := HN3.out; simp only [Option.getD_some] at h; have := HA0.out; omega
      generalize pfx x2 x0 n = R at HS ⊢
      go_wp2_with fail
      refine (same_any _ _ _ _ _ _ (andL x0 MK) (andL x2 MK) _ HN3.out HN4.out (by exact ((Rd.of_own (xs := andL x0 MK) hown3).below hb4).below hb5) (by exact (Rd.of_own (xs := andL x2 MK) hown4).below hb5) l3 R HS.out).mono ?_
      rintro e w6 ⟨rfl, k6, rfl⟩
      go_wp2
      go_ret
      exact ⟨ret_bool (by simp), below_drewN hb15 _⟩
    · omega

set_option maxHeartbeats 1000000 in
theorem walk_FnRoadsContain (A0 : Option Addr) (n0 c0 : Nat) (x0 : List UInt8) (i : Int) (A2 : Option Addr) (n2 c2 : Nat) (x2 : List UInt8) (w : World) (hn0 : x0.length = n0) (hc0 : n0 ≤ c0) (hs0 : c0 ≤ 140737488351232) (rd0 : Rd w A0 x0) (wi : (Lit.int .i64 i).wf = true) (hn2 : x2.length = n2) (hc2 : n2 ≤ c2) (hs2 : c2 ≤ 140737488351232) (rd2 : Rd w A2 x2) (hvars : V4 w ∧ ∃ p4 p6, ZF w p4 p6) :
    Calls Tryd.prog 4 #[.slice A0 n0 c0, .int .i64 i, .slice A2 n2 c2] w fun e w' => e = .returned (.bool true) ∧ Below w.heap.size w w' := by
  obtain ⟨hv4, p4, p6, hz⟩ := hvars
  have bi := bounds_i64 wi
  clear wi
  by_cases hv : n2 = 4 ∨ n2 = 16
  · by_cases h0 : n0 = n2
    · subst h0
      by_cases a1 : i < 0
      · have V := Lib.hid (show decide (n0 = 4 ∨ n0 = 16) = true by simpa using hv)
        clear hv hn0 hn2
        go_enter Tryd.func4, Tryd.ntmps4
        go_wp2_with fail
        refine (valid_any _ _ _ _ true V.out).mono ?_
        rintro e w0 ⟨rfl, rfl⟩
        go_wp2
        go_ret
        exact ⟨rfl, Below.refl _ _⟩
      · by_cases a2 : 8 * (n0 : Int) < i
        · have V := Lib.hid (show decide (n0 = 4 ∨ n0 = 16) = true by simpa using hv)
          have hle : n0 ≤ 16 := by omega
          clear hv hn0 hn2
          go_enter Tryd.func4, Tryd.ntmps4
          go_wp2_with fail
          refine (valid_any _ _ _ _ true V.out).mono ?_
          rintro e w0 ⟨rfl, rfl⟩
          go_wp2
          go_ret
          exact ⟨rfl, Below.refl _ _⟩
        · obtain ⟨n, rfl⟩ : ∃ n : Nat, i = (n : Int) := ⟨i.toNat, by omega⟩
          rcases hv with rfl | rfl
          · exact FnRC_4 A0 A2 c0 c2 n x0 x2 w hn0 hn2 hc0 hc2 rd0 rd2 hv4 p4 p6 hz (by omega)
          · exact FnRC_16 A0 A2 c0 c2 n x0 x2 w hn0 hn2 hc0 hc2 rd0 rd2 hv4 p4 p6 hz (by omega)
    · have V := Lib.hid (show decide (n2 = 4 ∨ n2 = 16) = true by simpa using hv)
      have t0 : ((n0 : Int) != (n2 : Int)) = true := by simp; omega
      clear hv h0 hn0 hn2
      go_enter Tryd.func4, Tryd.ntmps4
      go_wp2_with fail
      refine (valid_any _ _ _ _ true V.out).mono ?_
      rintro e w0 ⟨rfl, rfl⟩
      go_wp2
      go_ret
      exact ⟨rfl, Below.refl _ _⟩
  · have V := Lib.hid (show decide (n2 = 4 ∨ n2 = 16) = false by simpa using hv)
    clear hv hn0 hn2
    go_enter Tryd.func4, Tryd.ntmps4
    go_wp2_with fail
    refine (valid_any _ _ _ _ false V.out).mono ?_
    rintro e w0 ⟨rfl, rfl⟩
    go_wp2
    go_ret
    exact ⟨rfl, Below.refl _ _⟩
end Go.Proofs.YtjepkkfpgmgnjaaDoor
