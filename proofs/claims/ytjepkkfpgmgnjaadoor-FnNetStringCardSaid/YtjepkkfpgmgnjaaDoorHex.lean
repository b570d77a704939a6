/-
  Contracts of net.hexString and (net.IPMask).String: two small hexadecimal digits a byte. Condition: the length (2^47).
-/
import Derived.Test.YtjepkkfpgmgnjaaDoorHexP
import Derived.Test.YtjepkkfpgmgnjaaDoorBase
namespace Go.Proofs.YtjepkkfpgmgnjaaDoor
open Go.RowKit

set_option maxHeartbeats 1000000 in
theorem hexString_any (A : Option Addr) (n c : Nat) (xs : List UInt8) (w : World) (hn : xs.length = n) (ha : Rd w A xs) (hs : n ≤ 140737488351232) :
    Calls Tryd.prog 71 #[.slice A n c] w fun e w' => e = .returned (.string ⟨(hex xs).toArray⟩) ∧ Below w.heap.size w w' := by
  subst hn
  go_enter Tryd.func71, Tryd.ntmps71
  go_wp2_with (refine wpList_mk8 rfl (.tmp 8) (.tmp 8) 22 rfl 5 Tryd.underlying22 info8 .i64 .i64 _ _ (xs.length * 2) rfl rfl ?h1 ?h2 ?h3 ?_)
  case h1 => simp
  case h2 => simp
  case h3 => omega
  intro w1 hown hg
  have hb1 : Below w.heap.size w w1 := (Below.refl _ _).grown hg (Nat.le_refl _) (by simp)
  have hr1 := ha.below hb1
  go_wp2
  go_loopw [12] (fun i wr => ∃ k : Nat, k ≤ xs.length ∧ i = .int .i64 k ∧ wr.ownsRow w.heap.size 5 1 (.slice (some ⟨w.heap.size, 0, none⟩) (xs.length * 2) (xs.length * 2)) (hexTo xs k).length (cb (hexTo xs k)) ∧ Below w.heap.size w wr) (fun i _ => xs.length - (intOf i).toNat)
  case atStart => exact ⟨0, Nat.zero_le _, rfl, by simpa [hexTo, hex, Nat.mul_comm] using hown, hb1⟩
  case round =>
    obtain ⟨k, hk, rfl, ho, hb⟩ := hrel
    by_cases hlt : k < xs.length
    · obtain ⟨b, off, rfl, _, hc⟩ := (ha.below hb).at_ hlt
      have h1 := hc k hlt
      clear hc
      have HX := Lib.hid (hexTo_step xs k hlt)
      generalize xs[k] = x at h1 HX
      have hx : x.toNat < 256 := x.toNat_lt
      have hlen : (hexTo xs k).length = xs.length * 2 := by simp [hexTo, hex_length]; omega
      have c0 := own_cell ho (j := k * 2) (by omega) hlen
      have c1 := own_cell ho (j := k * 2 + 1) (by omega) hlen
      have f0 := own_frozen ho (k * 2) hlen
      have f1 := own_frozen ho (k * 2 + 1) hlen
      generalize (hexTo xs k)[k * 2] = y0 at c0
      generalize (hexTo xs k)[k * 2 + 1] = y1 at c1
      have HLEN := Lib.hid hlen
      clear hlen
      have x1 : (0 : Int) ≤ (x.toNat : Int) / 16 := by omega
      have x2 : (x.toNat : Int) / 16 < 16 := by omega
      have x3 : (0 : Int) ≤ (x.toNat : Int) % 16 := by omega
      have x4 : (x.toNat : Int) % 16 < 16 := by omega
      go_wp2
      go_region
      go_wp2
      go_roundw
      case rel =>
        have R := own_store (own_store ho (j := k * 2) (dg (x.toNat / 16)) HLEN.out) (j := k * 2 + 1) (dg (x.toNat % 16)) (by simpa using HLEN.out)
        rw [dig_get _ (by omega), dig_get _ (by omega)]
        rw [HX.out] at R
        exact ⟨k + 1, by omega, by go_num, R, ((hb.setCell (p := ⟨w.heap.size, k * 2, none⟩) (Nat.le_refl _) _).setCell (p := ⟨w.heap.size, k * 2 + 1, none⟩) (Nat.le_refl _) _).drew⟩
      case measure => simp [intOf]; omega
    · have hd : hexTo xs k = hex xs := by simp [hexTo, show xs.length - k = 0 by omega, List.take_of_length_le (show xs.length ≤ k by omega)]
      have hst := run_str 22 9 5 Tryd.underlying22 Tryd.underlying5 Tryd.underlying9 (xs.length * 2) (n := xs.length * 2) (by rw [hd, hex_length]; omega) (Rd.of_own ho)
      rw [hd] at hst
      go_wp2
      go_ret
      exact ⟨rfl, hb⟩
end Go.Proofs.YtjepkkfpgmgnjaaDoor
