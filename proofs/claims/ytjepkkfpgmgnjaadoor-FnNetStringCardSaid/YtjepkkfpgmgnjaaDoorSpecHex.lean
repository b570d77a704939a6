/-
  Contract of spec.Hex: two small hexadecimal digits a byte. Condition: the length (2^47).
-/
import Derived.Test.YtjepkkfpgmgnjaaDoorHexP
namespace Go.Proofs.YtjepkkfpgmgnjaaDoor
open Go.RowKit

set_option maxHeartbeats 1000000 in
theorem specHex_any (A : Option Addr) (n c : Nat) (xs : List UInt8) (w : World) (hn : xs.length = n) (ha : Rd w A xs) (hs : n ≤ 140737488351232) :
    Calls Tryd.prog 16 #[.slice A n c] w fun e w' => e = .returned (.string ⟨(hex xs).toArray⟩) ∧ ∃ k, w' = w.drewN k := by
  subst hn
  go_enter Tryd.func16, Tryd.ntmps16
  go_wp2
  go_loopw [8, 3] (fun i s wr => ∃ (k r : Nat) (l : List UInt8), k ≤ xs.length ∧ i = .int .i64 k ∧ wr = w.drewN r ∧ s = .string ⟨l.toArray⟩ ∧ l.length ≤ 2 * k ∧ Hid (l = hex (xs.take k))) (fun i _ _ => xs.length - (intOf i).toNat)
  case atStart => exact ⟨0, 0, [], Nat.zero_le _, rfl, rfl, rfl, Nat.le_refl _, rfl⟩
  case round =>
    obtain ⟨k, r, l, hk, rfl, rfl, rfl, hl, HL⟩ := hrel
    by_cases hlt : k < xs.length
    · obtain ⟨b, off, rfl, _, hc⟩ := ha.at_ hlt
      have h1 := hc k hlt
      clear hc
      have HT := Lib.hid (show hex (xs.take (k + 1)) = hex (xs.take k) ++ hex2 xs[k] by rw [take_snoc xs k hlt, hex_snoc])
      generalize xs[k] = x at h1 HT
      have hx : x.toNat < 256 := x.toNat_lt
      go_wp2
      go_quiet (fail)
      go_wp2
      go_roundw
      case rel =>
        refine ⟨k + 1, _, l ++ hex2 x, by omega, by go_num, rfl, ?_, by simp [hex2]; omega, ?_⟩
        · rw [dig_extract _ (by omega), dig_extract _ (by omega), ba_app, ba_app]
          rfl
        · show l ++ hex2 x = _
          rw [HT.out, ← HL.out]
      case measure => simp [intOf]; omega
    · go_wp2
      go_ret
      refine ⟨?_, _, rfl⟩
      have := HL.out
      rw [List.take_of_length_le (by omega)] at this
      rw [← this]
      rfl
end Go.Proofs.YtjepkkfpgmgnjaaDoor
