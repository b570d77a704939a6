/-
  Contract of spec.Long: the text of 16 bytes as IPv6. No condition.
-/
import Derived.Test.YtjepkkfpgmgnjaaDoorGroup
import Derived.Deep.RegionHeld3
namespace Go.Proofs.YtjepkkfpgmgnjaaDoor
open Go.RowKit
set_option linter.unusedVariables false

theorem sbst_le (g : Nat → Nat) (k : Nat) (h : k ≤ 8) : (sbst g k).1 + (sbst g k).2 ≤ 9 ∧ 1 ≤ (sbst g k).2 ∧ (1 < (sbst g k).2 → (sbst g k).1 + (sbst g k).2 ≤ 8) := by
  rcases sbst_bst g k h with ⟨h1, h2, h3⟩ | ⟨h1, h2, h3⟩
  · rw [h3]; decide
  · rw [h3]; simp only []; omega

theorem want_cases (l : List UInt8) : (l = [] ∧ wantC l = false) ∨ (∃ h : l.length - 1 < (⟨l.toArray⟩ : ByteArray).size, l ≠ [] ∧ (!l.isEmpty) = true ∧ 1 ≤ (l.length : Int) ∧ ((((⟨l.toArray⟩ : ByteArray)[l.length - 1]'h).toNat : Int) != 58) = wantC l) := by
  rcases (show l = [] ∨ ∃ t d, l = t ++ [d] from by
    rcases List.eq_nil_or_concat l with h | ⟨t, d, h⟩
    · exact .inl h
    · exact .inr ⟨t, d, by rw [h, List.concat_eq_append]⟩) with rfl | ⟨t, d, rfl⟩
  · exact .inl ⟨rfl, rfl⟩
  · refine .inr ⟨by simp [ByteArray.size], by simp, by cases t <;> rfl, by simp; omega, ?_⟩
    have e : (⟨(t ++ [d]).toArray⟩ : ByteArray)[(t ++ [d]).length - 1]'(by simp [ByteArray.size]) = d := by
      show (t ++ [d])[(t ++ [d]).length - 1]'(by simp) = d
      simp
    rw [e, wantC_snoc]
    by_cases hd : d = 58
    · subst hd; rfl
    · exact (u8nen (y := 58) hd).trans (by simpa using hd)

set_option maxRecDepth 100000 in
set_option maxHeartbeats 4000000 in
theorem specLong_any (A : Option Addr) (c : Nat) (xs : List UInt8) (w : World) (hn : xs.length = 16) (ha : Rd w A xs) :
    Calls Tryd.prog 36 #[.slice A 16 c] w fun e w' => e = .returned (.string ⟨(long (gr xs)).toArray⟩) ∧ Below w.heap.size w w' := by
  have HN := Lib.hid hn
  obtain ⟨b, off, rfl, hbl, hc⟩ := ha.at_ (k := 0) (by omega)
  have HC := Lib.hid hc
  have HG := Lib.hid (fun k hk => gr_at xs hn k hk)
  clear hn hc
  go_enter Tryd.func36, Tryd.ntmps36
  go_wp2
  go_loopw [9, 3, 4] (fun i bb mm wr => ∃ k bn mn r : Nat, k ≤ 8 ∧ i = .int .i64 (k : Int) ∧ bb = .int .i64 (bn : Int) ∧ mm = .int .i64 (mn : Int) ∧ wr = w.drewN r ∧ Hid (sbst (gr xs) k = (bn, mn))) (fun i _ _ _ => 8 - (intOf i).toNat)
  case atStart => exact ⟨0, 0, 1, 0, by omega, rfl, rfl, rfl, rfl, rfl⟩
  case round =>
    obtain ⟨k, bn, mn, r, hk, rfl, rfl, rfl, rfl, HB⟩ := hrel
    have hle := sbst_le (gr xs) k hk
    rw [HB.out] at hle
    obtain ⟨hl1, hl2, hl3⟩ := hle
    simp only [] at hl1 hl2 hl3
    by_cases hlt : k < 8
    · have hr8 := run_le (gr xs) k hk
      go_wp2_with fail
      refine (zerosAt_any _ _ k xs _ HN.out (by exact ha) hlt).mono ?_
      rintro e w1 ⟨rfl, k1, rfl⟩
      generalize hr : run (gr xs) k = rn at hr8 ⊢
      have HR := Lib.hid hr
      clear hr
      by_cases hm : mn < rn
      · go_wp2
        go_roundw
        case rel => exact ⟨k + 1, k, rn, _, by omega, by go_num, rfl, rfl, rfl, by rw [← HR.out]; exact sbst_yes HB.out (by rw [HR.out]; exact hm)⟩
        case measure => simp [intOf]; omega
      · go_wp2
        go_roundw
        case rel => exact ⟨k + 1, bn, mn, _, by omega, by go_num, rfl, rfl, rfl, sbst_no HB.out (by rw [HR.out]; exact hm)⟩
        case measure => simp [intOf]; omega
    · have HK8 := Lib.hid (show k = 8 by omega)
      have HB8 := Lib.hid (show sbst (gr xs) 8 = (bn, mn) by rw [← HK8.out]; exact HB.out)
      clear HB
      go_wp2
      have ba : Below w.heap.size w (w.drewN r) := below_drewN (Below.refl _ _) _
      generalize w.drewN r = v at ba ⊢
      go_loopw [8, 7] (fun i s wr => ∃ (k : Nat) (l : List UInt8), k ≤ 8 ∧ i = .int .i64 (k : Int) ∧ s = .string ⟨l.toArray⟩ ∧ l.length ≤ 100 ∧ Below w.heap.size w wr ∧ Hid (l = partS (gr xs) bn mn k ∧ (mn ≤ 1 ∨ k ≤ bn ∨ bn + mn ≤ k))) (fun i _ _ => 8 - (intOf i).toNat)
      case atStart => exact ⟨0, [], by omega, rfl, rfl, by simp, ba, by unfold partS; rw [if_pos (by omega)]; rfl, by omega⟩
      case round =>
        obtain ⟨k, l, hk, rfl, rfl, hll, hb, HP⟩ := hrel
        by_cases hlt : k < 8
        · by_cases hgap : k = bn ∧ 1 < mn
          · obtain ⟨hkb, hm⟩ := hgap
            have HKB := Lib.hid hkb
            have h8 := hl3 hm
            have hkb' : ((k : Int) == (bn : Int)) = true := by simp [hkb]
            have hk9 : k ≤ bn := by omega
            clear hkb
            go_wp2
            go_roundw
            case rel =>
              obtain ⟨e1, e2⟩ := HP.out
              have hkb := HKB.out
              have e3 : l ++ [58, 58] = partS (gr xs) bn mn (k + mn) := by rw [hkb, partS_gap hm, e1, hkb]
              exact ⟨k + mn, l ++ [58, 58], by omega, by go_num, by rw [← ba_app], by rw [e3]; exact partS_len _ _ _ _ (by omega) (by omega), hb, e3, by omega⟩
            case measure => simp [intOf]; omega
          · obtain ⟨e1, e2⟩ := HP.out
            have HX := Lib.hid (partS_next (g := gr xs) (b := bn) (m := mn) (k := k) (by omega))
            rw [← e1] at HX
            clear e1 e2
            have h0 := HC.out (2 * k) (by rw [HN.out]; omega)
            have h1 := HC.out (2 * k + 1) (by rw [HN.out]; omega)
            have hg := HG.out k hlt
            rw [List.getD_eq_getElem?_getD, List.getElem?_eq_getElem (by rw [HN.out]; omega), List.getD_eq_getElem?_getD, List.getElem?_eq_getElem (by rw [HN.out]; omega)] at hg
            simp only [Option.getD_some] at hg
            have HGK := Lib.hid hg
            clear hg
            generalize xs[2 * k]'(by rw [HN.out]; omega) = x at h0 HGK
            generalize xs[2 * k + 1]'(by rw [HN.out]; omega) = y at h1 HGK
            replace h0 := (hb.cell (p := ⟨b, off + 2 * k, none⟩) hbl).trans h0
            replace h1 := (hb.cell (p := ⟨b, off + (2 * k + 1), none⟩) hbl).trans h1
            have hbr : b < wr.heap.size := Nat.lt_of_lt_of_le hbl hb.size
            have HGAP := Lib.hid hgap
            clear hgap
            have hend : ∀ l', Hid (l' = partS (gr xs) bn mn (k + 1)) → (l'.length ≤ 100 ∧ Hid (l' = partS (gr xs) bn mn (k + 1) ∧ (mn ≤ 1 ∨ k + 1 ≤ bn ∨ bn + mn ≤ k + 1))) := by
              intro l' h
              obtain ⟨e1, e2⟩ := HP.out
              exact ⟨by rw [h.out]; exact partS_len _ _ _ _ (by omega) (by omega), h.out, by have := HGAP.out; omega⟩
            have HE := Lib.hid hend
            clear hend
            have hmn : k = bn → mn = 1 := fun h => by have := HGAP.out; omega
            have w0 := want_cases l
            by_cases hkb : k = bn
            · have hmn1 := hmn hkb
              have hkb' : ((k : Int) == (bn : Int)) = true := by simp [hkb]
              have hm1 : mn ≤ 1 := by omega
              clear hmn hmn1 hkb
              rcases w0 with ⟨rfl, hw⟩ | ⟨hlt', hne, hne2, hne3, hw⟩
              · have HY := Lib.hid (show [] ++ hx (x.toNat * 256 + y.toNat) = partS (gr xs) bn mn (k + 1) by rw [HX.out, hw, HGK.out]; rfl)
                have u10 : ¬ 9223372036854775807 < (hx (x.toNat * 256 + y.toNat)).length := by have := hx_len (x.toNat * 256 + y.toNat); omega
                obtain ⟨u11, u12⟩ := HE.out _ HY.out
                go_wp2
                have u1 : IntKind.i64.wrap (2 * (k : Int)) = 2 * (k : Int) := IntWalk.i64_in _ (by omega)
                have u2 : IntKind.i64.wrap (2 * (k : Int) + 1) = 2 * (k : Int) + 1 := IntWalk.i64_in _ (by omega)
                have u3 : 0 ≤ 2 * (k : Int) := by omega
                have u4 : 2 * (k : Int) < 16 := by omega
                have u5 : 0 ≤ 2 * (k : Int) + 1 := by omega
                have u6 : 2 * (k : Int) + 1 < 16 := by omega
                have u7 : (2 * (k : Int)).toNat = 2 * k := by omega
                have u8 : (2 * (k : Int) + 1).toNat = 2 * k + 1 := by omega
                go_region_held3 (fun (v : World) => v.cell? ⟨b, off + 2 * k, none⟩ = some (.int .u8 (x.toNat : Int)) ∧ v.cell? ⟨b, off + (2 * k + 1), none⟩ = some (.int .u8 (y.toNat : Int))) (first | exact ⟨h0, h1⟩ | exact ⟨(hb1.cell (p := ⟨b, _, none⟩) hbr).trans h0, (hb1.cell (p := ⟨b, _, none⟩) hbr).trans h1⟩) ((go_at_call 55; refine (group_any x y _).mono ?_; rintro e w1 ⟨rfl, k1⟩; have hb1 : Below wr.heap.size wr w1 := below_undrew k1))
                clear u1 u2 u7 u8 u10
                go_wp2
                go_roundw
                case rel => exact ⟨k + 1, ([] : List UInt8) ++ hx (x.toNat * 256 + y.toNat), by omega, by go_num, by rw [← ba_app], u11, hb.trans (hb1.mono hb.size), u12⟩
                case measure => simp [intOf]; omega
              · rcases hwc : wantC l with _ | _
                · rw [hwc] at hw
                  have HY := Lib.hid (show l ++ hx (x.toNat * 256 + y.toNat) = partS (gr xs) bn mn (k + 1) by rw [HX.out, hwc, HGK.out]; rfl)
                  clear hwc
                  have u10 : ¬ 9223372036854775807 < l.length + (hx (x.toNat * 256 + y.toNat)).length := by have := hx_len (x.toNat * 256 + y.toNat); omega
                  obtain ⟨u11, u12⟩ := HE.out _ HY.out
                  go_wp2
                  have u1 : IntKind.i64.wrap (2 * (k : Int)) = 2 * (k : Int) := IntWalk.i64_in _ (by omega)
                  have u2 : IntKind.i64.wrap (2 * (k : Int) + 1) = 2 * (k : Int) + 1 := IntWalk.i64_in _ (by omega)
                  have u3 : 0 ≤ 2 * (k : Int) := by omega
                  have u4 : 2 * (k : Int) < 16 := by omega
                  have u5 : 0 ≤ 2 * (k : Int) + 1 := by omega
                  have u6 : 2 * (k : Int) + 1 < 16 := by omega
                  have u7 : (2 * (k : Int)).toNat = 2 * k := by omega
                  have u8 : (2 * (k : Int) + 1).toNat = 2 * k + 1 := by omega
                  go_region_held3 (fun (v : World) => v.cell? ⟨b, off + 2 * k, none⟩ = some (.int .u8 (x.toNat : Int)) ∧ v.cell? ⟨b, off + (2 * k + 1), none⟩ = some (.int .u8 (y.toNat : Int))) (first | exact ⟨h0, h1⟩ | exact ⟨(hb1.cell (p := ⟨b, _, none⟩) hbr).trans h0, (hb1.cell (p := ⟨b, _, none⟩) hbr).trans h1⟩) ((go_at_call 55; refine (group_any x y _).mono ?_; rintro e w1 ⟨rfl, k1⟩; have hb1 : Below wr.heap.size wr w1 := below_undrew k1))
                  clear u1 u2 u7 u8 u10
                  go_wp2
                  go_roundw
                  case rel => exact ⟨k + 1, l ++ hx (x.toNat * 256 + y.toNat), by omega, by go_num, by rw [← ba_app], u11, hb.trans (hb1.mono hb.size), u12⟩
                  case measure => simp [intOf]; omega
                · rw [hwc] at hw
                  have HY := Lib.hid (show (l ++ [58]) ++ hx (x.toNat * 256 + y.toNat) = partS (gr xs) bn mn (k + 1) by rw [HX.out, hwc, HGK.out]; simp)
                  clear hwc
                  have u10 : ¬ 9223372036854775807 < l.length + 1 + (hx (x.toNat * 256 + y.toNat)).length := by have := hx_len (x.toNat * 256 + y.toNat); omega
                  obtain ⟨u11, u12⟩ := HE.out _ HY.out
                  go_wp2
                  have u1 : IntKind.i64.wrap (2 * (k : Int)) = 2 * (k : Int) := IntWalk.i64_in _ (by omega)
                  have u2 : IntKind.i64.wrap (2 * (k : Int) + 1) = 2 * (k : Int) + 1 := IntWalk.i64_in _ (by omega)
                  have u3 : 0 ≤ 2 * (k : Int) := by omega
                  have u4 : 2 * (k : Int) < 16 := by omega
                  have u5 : 0 ≤ 2 * (k : Int) + 1 := by omega
                  have u6 : 2 * (k : Int) + 1 < 16 := by omega
                  have u7 : (2 * (k : Int)).toNat = 2 * k := by omega
                  have u8 : (2 * (k : Int) + 1).toNat = 2 * k + 1 := by omega
                  go_region_held3 (fun (v : World) => v.cell? ⟨b, off + 2 * k, none⟩ = some (.int .u8 (x.toNat : Int)) ∧ v.cell? ⟨b, off + (2 * k + 1), none⟩ = some (.int .u8 (y.toNat : Int))) (first | exact ⟨h0, h1⟩ | exact ⟨(hb1.cell (p := ⟨b, _, none⟩) hbr).trans h0, (hb1.cell (p := ⟨b, _, none⟩) hbr).trans h1⟩) ((go_at_call 55; refine (group_any x y _).mono ?_; rintro e w1 ⟨rfl, k1⟩; have hb1 : Below wr.heap.size wr w1 := below_undrew k1))
                  clear u1 u2 u7 u8 u10
                  go_wp2
                  go_roundw
                  case rel => exact ⟨k + 1, (l ++ [58]) ++ hx (x.toNat * 256 + y.toNat), by omega, by go_num, by rw [← ba_app, ← ba_app], u11, hb.trans (hb1.mono hb.size), u12⟩
                  case measure => simp [intOf]; omega
            · have hkb' : ((k : Int) == (bn : Int)) = false := by simp; omega
              clear hmn
              rcases w0 with ⟨rfl, hw⟩ | ⟨hlt', hne, hne2, hne3, hw⟩
              · have HY := Lib.hid (show [] ++ hx (x.toNat * 256 + y.toNat) = partS (gr xs) bn mn (k + 1) by rw [HX.out, hw, HGK.out]; rfl)
                have u10 : ¬ 9223372036854775807 < (hx (x.toNat * 256 + y.toNat)).length := by have := hx_len (x.toNat * 256 + y.toNat); omega
                obtain ⟨u11, u12⟩ := HE.out _ HY.out
                go_wp2
                have u1 : IntKind.i64.wrap (2 * (k : Int)) = 2 * (k : Int) := IntWalk.i64_in _ (by omega)
                have u2 : IntKind.i64.wrap (2 * (k : Int) + 1) = 2 * (k : Int) + 1 := IntWalk.i64_in _ (by omega)
                have u3 : 0 ≤ 2 * (k : Int) := by omega
                have u4 : 2 * (k : Int) < 16 := by omega
                have u5 : 0 ≤ 2 * (k : Int) + 1 := by omega
                have u6 : 2 * (k : Int) + 1 < 16 := by omega
                have u7 : (2 * (k : Int)).toNat = 2 * k := by omega
                have u8 : (2 * (k : Int) + 1).toNat = 2 * k + 1 := by omega
                go_region_held3 (fun (v : World) => v.cell? ⟨b, off + 2 * k, none⟩ = some (.int .u8 (x.toNat : Int)) ∧ v.cell? ⟨b, off + (2 * k + 1), none⟩ = some (.int .u8 (y.toNat : Int))) (first | exact ⟨h0, h1⟩ | exact ⟨(hb1.cell (p := ⟨b, _, none⟩) hbr).trans h0, (hb1.cell (p := ⟨b, _, none⟩) hbr).trans h1⟩) ((go_at_call 55; refine (group_any x y _).mono ?_; rintro e w1 ⟨rfl, k1⟩; have hb1 : Below wr.heap.size wr w1 := below_undrew k1))
                clear u1 u2 u7 u8 u10
                go_wp2
                go_roundw
                case rel => exact ⟨k + 1, ([] : List UInt8) ++ hx (x.toNat * 256 + y.toNat), by omega, by go_num, by rw [← ba_app], u11, hb.trans (hb1.mono hb.size), u12⟩
                case measure => simp [intOf]; omega
              · rcases hwc : wantC l with _ | _
                · rw [hwc] at hw
                  have HY := Lib.hid (show l ++ hx (x.toNat * 256 + y.toNat) = partS (gr xs) bn mn (k + 1) by rw [HX.out, hwc, HGK.out]; rfl)
                  clear hwc
                  have u10 : ¬ 9223372036854775807 < l.length + (hx (x.toNat * 256 + y.toNat)).length := by have := hx_len (x.toNat * 256 + y.toNat); omega
                  obtain ⟨u11, u12⟩ := HE.out _ HY.out
                  go_wp2
                  have u1 : IntKind.i64.wrap (2 * (k : Int)) = 2 * (k : Int) := IntWalk.i64_in _ (by omega)
                  have u2 : IntKind.i64.wrap (2 * (k : Int) + 1) = 2 * (k : Int) + 1 := IntWalk.i64_in _ (by omega)
                  have u3 : 0 ≤ 2 * (k : Int) := by omega
                  have u4 : 2 * (k : Int) < 16 := by omega
                  have u5 : 0 ≤ 2 * (k : Int) + 1 := by omega
                  have u6 : 2 * (k : Int) + 1 < 16 := by omega
                  have u7 : (2 * (k : Int)).toNat = 2 * k := by omega
                  have u8 : (2 * (k : Int) + 1).toNat = 2 * k + 1 := by omega
                  go_region_held3 (fun (v : World) => v.cell? ⟨b, off + 2 * k, none⟩ = some (.int .u8 (x.toNat : Int)) ∧ v.cell? ⟨b, off + (2 * k + 1), none⟩ = some (.int .u8 (y.toNat : Int))) (first | exact ⟨h0, h1⟩ | exact ⟨(hb1.cell (p := ⟨b, _, none⟩) hbr).trans h0, (hb1.cell (p := ⟨b, _, none⟩) hbr).trans h1⟩) ((go_at_call 55; refine (group_any x y _).mono ?_; rintro e w1 ⟨rfl, k1⟩; have hb1 : Below wr.heap.size wr w1 := below_undrew k1))
                  clear u1 u2 u7 u8 u10
                  go_wp2
                  go_roundw
                  case rel => exact ⟨k + 1, l ++ hx (x.toNat * 256 + y.toNat), by omega, by go_num, by rw [← ba_app], u11, hb.trans (hb1.mono hb.size), u12⟩
                  case measure => simp [intOf]; omega
                · rw [hwc] at hw
                  have HY := Lib.hid (show (l ++ [58]) ++ hx (x.toNat * 256 + y.toNat) = partS (gr xs) bn mn (k + 1) by rw [HX.out, hwc, HGK.out]; simp)
                  clear hwc
                  have u10 : ¬ 9223372036854775807 < l.length + 1 + (hx (x.toNat * 256 + y.toNat)).length := by have := hx_len (x.toNat * 256 + y.toNat); omega
                  obtain ⟨u11, u12⟩ := HE.out _ HY.out
                  go_wp2
                  have u1 : IntKind.i64.wrap (2 * (k : Int)) = 2 * (k : Int) := IntWalk.i64_in _ (by omega)
                  have u2 : IntKind.i64.wrap (2 * (k : Int) + 1) = 2 * (k : Int) + 1 := IntWalk.i64_in _ (by omega)
                  have u3 : 0 ≤ 2 * (k : Int) := by omega
                  have u4 : 2 * (k : Int) < 16 := by omega
                  have u5 : 0 ≤ 2 * (k : Int) + 1 := by omega
                  have u6 : 2 * (k : Int) + 1 < 16 := by omega
                  have u7 : (2 * (k : Int)).toNat = 2 * k := by omega
                  have u8 : (2 * (k : Int) + 1).toNat = 2 * k + 1 := by omega
                  go_region_held3 (fun (v : World) => v.cell? ⟨b, off + 2 * k, none⟩ = some (.int .u8 (x.toNat : Int)) ∧ v.cell? ⟨b, off + (2 * k + 1), none⟩ = some (.int .u8 (y.toNat : Int))) (first | exact ⟨h0, h1⟩ | exact ⟨(hb1.cell (p := ⟨b, _, none⟩) hbr).trans h0, (hb1.cell (p := ⟨b, _, none⟩) hbr).trans h1⟩) ((go_at_call 55; refine (group_any x y _).mono ?_; rintro e w1 ⟨rfl, k1⟩; have hb1 : Below wr.heap.size wr w1 := below_undrew k1))
                  clear u1 u2 u7 u8 u10
                  go_wp2
                  go_roundw
                  case rel => exact ⟨k + 1, (l ++ [58]) ++ hx (x.toNat * 256 + y.toNat), by omega, by go_num, by rw [← ba_app, ← ba_app], u11, hb.trans (hb1.mono hb.size), u12⟩
                  case measure => simp [intOf]; omega
        · go_wp2
          go_ret
          obtain ⟨e1, e2⟩ := HP.out
          refine ⟨ret_str ?_, hb⟩
          rw [e1, ← partS_end, HB8.out]
          congr 1
          omega
end Go.Proofs.YtjepkkfpgmgnjaaDoor
