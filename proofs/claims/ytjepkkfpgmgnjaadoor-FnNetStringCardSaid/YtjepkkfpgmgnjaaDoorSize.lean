/-
  Contracts of spec.Size and net.simpleMaskLength. Condition: the length (2^47).
-/
import Derived.Test.YtjepkkfpgmgnjaaDoorMaskLen
import Derived.Test.YtjepkkfpgmgnjaaDoorBit
namespace Go.Proofs.YtjepkkfpgmgnjaaDoor
open Go.RowKit
set_option linter.unusedVariables false

set_option maxHeartbeats 1000000 in
theorem specSize_any (A : Option Addr) (n c : Nat) (xs : List UInt8) (w : World) (hn : xs.length = n) (ha : Rd w A xs) (hs : n ≤ 140737488351232) :
    Calls Tryd.prog 15 #[.slice A n c] w fun e w' => SizePost xs w e w' := by
  subst hn
  go_enter Tryd.func15, Tryd.ntmps15
  go_wp2
  go_loop [2] (fun o => ∃ k : Nat, k ≤ 8 * xs.length ∧ o = .int .i64 k ∧ Hid (∀ j, j < k → bitOf xs j = true)) (fun o => 8 * xs.length - (intOf o).toNat)
  case atStart => exact ⟨0, Nat.zero_le _, rfl, fun j h => absurd h (by omega)⟩
  case round =>
    obtain ⟨k, hk, rfl, H1⟩ := hrel
    by_cases hc : k < 8 * xs.length ∧ bitOf xs k = true
    · obtain ⟨hlt, hb⟩ := hc
      have HB := Lib.hid hb
      clear hb
      go_wp2_with (go_at_call 32; refine (bit_any _ _ _ xs k _ rfl ha hlt hs true HB.out).mono ?_; rintro e w' ⟨rfl, rfl⟩)
      go_round
      case rel =>
        refine ⟨k + 1, by omega, by go_num, fun j hj => ?_⟩
        rcases Nat.lt_or_ge j k with h | h
        · exact H1.out j h
        · obtain rfl : j = k := by omega
          exact HB.out
      case measure => simp [intOf]; omega
    · have HK := Lib.hid (show k < 8 * xs.length → bitOf xs k = false from fun h => by
        rcases hb : bitOf xs k with _ | _
        · rfl
        · exact absurd ⟨h, hb⟩ hc)
      clear hc
      by_cases hlt : k < 8 * xs.length
      · go_wp2_with (go_at_call 32; refine (bit_any _ _ _ xs k _ rfl ha hlt hs false (HK.out hlt)).mono ?_; rintro e w' ⟨rfl, rfl⟩)
        go_loop [5, 2, 3, 4] (fun o a b d => ∃ i : Nat, k ≤ i ∧ i ≤ 8 * xs.length ∧ o = .int .i64 i ∧ a = .int .i64 k ∧ b = .int .i64 (8 * (xs.length : Int)) ∧ d = .bool false ∧ Hid (∀ j, k ≤ j → j < i → bitOf xs j = false)) (fun o _ _ _ => 8 * xs.length - (intOf o).toNat)
        case atStart => exact ⟨k, Nat.le_refl _, by omega, rfl, rfl, rfl, rfl, fun j h h' => absurd h' (by omega)⟩
        case round =>
          obtain ⟨i, hki, hi, rfl, rfl, rfl, rfl, H0⟩ := hrel
          by_cases hlt2 : i < 8 * xs.length
          · rcases hb : bitOf xs i with _ | _
            · have HB := Lib.hid hb
              clear hb
              go_wp2_with (go_at_call 32; refine (bit_any _ _ _ xs i _ rfl ha hlt2 hs false HB.out).mono ?_; rintro e w' ⟨rfl, rfl⟩)
              go_round
              case rel =>
                refine ⟨i + 1, by omega, by omega, by go_num, rfl, rfl, rfl, fun j h1 hj => ?_⟩
                rcases Nat.lt_or_ge j i with h | h
                · exact H0.out j h1 h
                · obtain rfl : j = i := by omega
                  exact HB.out
              case measure => simp [intOf]; omega
            · have HB := Lib.hid hb
              clear hb
              go_wp2_with (go_at_call 32; refine (bit_any _ _ _ xs i _ rfl ha hlt2 hs true HB.out).mono ?_; rintro e w' ⟨rfl, rfl⟩)
              go_ret3
              exact ⟨rfl, .inr ⟨not_cidr hlt2 hki (HK.out hlt) HB.out, rfl⟩⟩
          · go_wp2
            go_ret3
            exact ⟨rfl, .inl ⟨k, hk, is_cidr H1.out (fun j h1 h2 => H0.out j h1 (by omega)), rfl⟩⟩
      · go_wp2_with (fail)
        refine wp_loop_rounds 1 ?_
        rw [rounds_succ]
        go_wp2
        go_ret3
        exact ⟨rfl, .inl ⟨k, hk, is_cidr H1.out (fun j h1 h2 => absurd h2 (by omega)), rfl⟩⟩

set_option maxHeartbeats 1000000 in
theorem sml_any (A : Option Addr) (n c : Nat) (xs : List UInt8) (w : World) (hn : xs.length = n) (ha : Rd w A xs) (hs : n ≤ 140737488351232) :
    Calls Tryd.prog 50 #[.slice A n c] w fun e w' => SmlPost xs w e w' := by
  subst hn
  go_enter Tryd.func50, Tryd.ntmps50
  go_wp2
  go_loop [8, 3] (fun i o => ∃ k : Nat, k ≤ xs.length ∧ i = .int .i64 k ∧ o = .int .i64 (8 * (k : Int)) ∧ Hid (∀ j (hj : j < xs.length), j < k → xs[j] = 255)) (fun i _ => xs.length - (intOf i).toNat)
  case atStart => exact ⟨0, Nat.zero_le _, rfl, rfl, fun j _ h => absurd h (by omega)⟩
  case round =>
    obtain ⟨k, hk, rfl, rfl, H1⟩ := hrel
    by_cases hlt : k < xs.length
    · obtain ⟨b, off, rfl, _, hcell⟩ := ha.at_ hlt
      have c0 := hcell k hlt
      by_cases hx : xs[k] = 255
      · have HX := Lib.hid hx
        rw [hx] at c0
        clear hx hcell
        go_wp2
        go_round
        case rel =>
          refine ⟨k + 1, by omega, by go_num, by go_num, fun j a1 hj => ?_⟩
          rcases Nat.lt_or_ge j k with h | h
          · exact H1.out j a1 h
          · obtain rfl : j = k := by omega
            exact HX.out
        case measure => simp [intOf]; omega
      · have t1 : ((xs[k].toNat : Int) == 255) = false := u8ne (y := 255) hx
        have HX := Lib.hid hx
        have HV := Lib.hid (show xs[k].toNat < 255 by
          have h1 := xs[k].toNat_lt
          rcases Nat.lt_or_ge xs[k].toNat 255 with h | h
          · exact h
          · exact absurd (UInt8.toNat_inj.mp (show xs[k].toNat = (255 : UInt8).toNat by have : (255 : UInt8).toNat = 255 := rfl; omega)) hx)
        have HC := Lib.hid hcell
        clear hx hcell
        go_wp2
        go_loop [3, 5] (fun o v => ∃ j u : Nat, j ≤ lo8 xs[k].toNat ∧ j ≤ 8 ∧ u < 256 ∧ o = .int .i64 (8 * (k : Int) + (j : Int)) ∧ v = .int .u8 (u : Int) ∧ Hid (u = xs[k].toNat * 2 ^ j % 256)) (fun o _ => 8 * k + 8 - (intOf o).toNat)
        case atStart => exact ⟨0, xs[k].toNat, Nat.zero_le _, by decide, xs[k].toNat_lt, by go_num, rfl, by show xs[k].toNat = _; rw [Nat.pow_zero, Nat.mul_one, Nat.mod_eq_of_lt xs[k].toNat_lt]⟩
        case round =>
          obtain ⟨j, u, hj, hj8, hu, rfl, rfl, HU⟩ := hrel
          by_cases hjl : j < lo8 xs[k].toNat
          · have hl8 := lo8_le _ HV.out
            have t2 : (bits BinOp.and IntKind.u8 (u : Int) 128 != 0) = true := by rw [HU.out]; exact lo8_on _ _ HV.out hjl
            go_wp2
            go_round
            case rel =>
              refine ⟨j + 1, u * 2 % 256, by omega, by omega, by omega, by go_num, ?_, ?_⟩
              · go_num
              · show u * 2 % 256 = _
                rw [HU.out, shl_next]
            case measure => simp [intOf]; omega
          · have hl8 := lo8_le _ HV.out
            have ej : j = lo8 xs[k].toNat := by omega
            have t2 : (bits BinOp.and IntKind.u8 (u : Int) 128 != 0) = false := by rw [HU.out, ej]; exact lo8_off _ HV.out
            have HZ := Lib.hid (lo8_zero _ HV.out)
            have HJ := Lib.hid ej
            clear ej
            by_cases hu0 : u = 0
            · have HOB := Lib.hid (HZ.out.mp (by rw [← HJ.out, ← HU.out]; exact hu0))
              clear HU
              subst hu0
              go_wp2
              go_loop [4] (fun o => ∃ i : Nat, k + 1 ≤ i ∧ i ≤ xs.length ∧ o = .int .i64 i ∧ Hid (∀ t (ht : t < xs.length), k < t → t < i → xs[t] = 0)) (fun o => xs.length - (intOf o).toNat)
              case atStart => exact ⟨k + 1, Nat.le_refl _, by omega, by go_num, fun t _ h h' => absurd h' (by omega)⟩
              case round =>
                obtain ⟨i, hki, hi, rfl, H0⟩ := hrel
                by_cases hlt2 : i < xs.length
                · have c1 := HC.out i hlt2
                  by_cases hi0 : xs[i] = 0
                  · have HI := Lib.hid hi0
                    rw [hi0] at c1
                    clear hi0
                    go_wp2
                    go_round
                    case rel =>
                      refine ⟨i + 1, by omega, by omega, by go_num, fun t a1 h1 ht => ?_⟩
                      rcases Nat.lt_or_ge t i with h | h
                      · exact H0.out t a1 h1 h
                      · obtain rfl : t = i := by omega
                        exact HI.out
                    case measure => simp [intOf]; omega
                  · have t3 : ((xs[i].toNat : Int) != 0) = true := u8nen (y := 0) hi0
                    have HI := Lib.hid hi0
                    clear hi0
                    go_wp2
                    go_ret
                    exact ⟨rfl, .inr ⟨sml_no2 hlt hlt2 (by omega) HX.out HI.out, rfl⟩⟩
                · go_wp2
                  go_ret
                  refine ⟨rfl, .inl ⟨8 * k + j, by omega, ?_, by simp⟩⟩
                  exact sml_ok hlt H1.out (by rw [HJ.out]; exact HOB.out) (by rw [HJ.out]; exact lo8_le _ HV.out) (fun t a1 h1 => H0.out t a1 h1 (by omega))
            · have t3 : ((u : Int) != 0) = true := by simp; omega
              have HNO := Lib.hid (show xs[k] ≠ ob (lo8 xs[k].toNat) from fun e => hu0 (by rw [HU.out, HJ.out]; exact HZ.out.mpr e))
              clear hu0
              go_wp2
              go_ret
              exact ⟨rfl, .inr ⟨sml_no1 hlt HX.out HNO.out, rfl⟩⟩
    · go_wp2
      go_ret
      exact ⟨rfl, .inl ⟨8 * xs.length, Nat.le_refl _, sml_all fun j hj => H1.out j hj (by omega), by rw [show k = xs.length by omega]; simp⟩⟩

end Go.Proofs.YtjepkkfpgmgnjaaDoor
