/-
  Contract of spec.Ones: the mask of so many ones and bits. Condition: the ones are at most the bits, and the bits a multiple of 8, at most 1024.
-/
import Derived.Test.YtkabdfmcflkkoaaDoorCidr
namespace Go.Proofs.YtkabdfmcflkkoaaDoor
open Go.RowKit
set_option linter.unusedVariables false

theorem ob_or (m : Nat) (h : m < 8) : bits BinOp.or IntKind.u8 ((ob m).toNat : Int) (128 / 2 ^ m) = ((ob (m + 1)).toNat : Int) := by
  have : ∀ m : Fin 8, bits BinOp.or IntKind.u8 ((ob m.val).toNat : Int) (128 / 2 ^ m.val) = ((ob (m.val + 1)).toNat : Int) := by decide +kernel
  exact this ⟨m, h⟩
theorem cidr_zero (l : Nat) : cidr l 0 = List.replicate l 0 := by
  apply List.ext_getElem (by simp [cidr_length])
  intro i h1 h2
  rw [cidr_get l 0 i (by simpa [cidr_length] using h1)]
  simp [ob]
theorem cidr_set (l k : Nat) (h : k < 8 * l) : (cidr l k).set (k / 8) (ob (k % 8 + 1)) = cidr l (k + 1) := by
  apply List.ext_getElem (by simp [cidr_length])
  intro i h1 h2
  have hi : i < l := by simpa [cidr_length] using h2
  rw [cidr_get l (k + 1) i hi, List.getElem_set]
  split
  · rename_i e
    subst e
    congr 1
    omega
  · rename_i e
    rw [cidr_get l k i hi]
    rcases Nat.lt_or_ge i (k / 8) with h3 | h3
    · rw [ob_big (by omega), ob_big (by omega)]
    · rw [show k - 8 * i = 0 by omega, show k + 1 - 8 * i = 0 by omega]

set_option maxHeartbeats 1000000 in
theorem ones_any (n l : Nat) (w : World) (hl : l ≤ 128) (hn : n ≤ 8 * l) (o b : Int) (ho : o = (n : Int)) (hb : b = 8 * (l : Int)) :
    Calls Tryd.prog 13 #[.int .i64 o, .int .i64 b] w fun e w' => OwnBack 5 w (cidr l n) e w' := by
  subst ho
  have hb8 : b / 8 = (l : Int) := by omega
  have hb0 : 0 ≤ b := by omega
  have hbm : b ≤ 1024 := by omega
  have HB := Lib.hid hb8
  clear hb hb8
  go_enter Tryd.func13, Tryd.ntmps13
  go_wp2_with (refine wpList_mk8 rfl (.tmp 8) (.tmp 8) 22 rfl 5 Tryd.underlying22 info8 .i64 .i64 _ _ l rfl rfl ?h1 ?h2 ?h3 ?_)
  case h1 => exact HB.out
  case h2 => exact HB.out
  case h3 => omega
  intro w1 hown hg
  have hb1 : Below w.heap.size w w1 := (Below.refl _ _).grown hg (Nat.le_refl _) (by simp)
  have ho1 : w1.ownsRow w.heap.size 5 1 (.slice (some ⟨w.heap.size, 0, none⟩) l l) (cidr l 0).length (cb (cidr l 0)) := by rw [cidr_zero]; simpa using hown
  clear hown hg
  go_wp2
  go_loopw [11] (fun i wr => ∃ k : Nat, k ≤ n ∧ i = .int .i64 k ∧ wr.ownsRow w.heap.size 5 1 (.slice (some ⟨w.heap.size, 0, none⟩) l l) (cidr l k).length (cb (cidr l k)) ∧ Below w.heap.size w wr) (fun i _ => n - (intOf i).toNat)
  case atStart => exact ⟨0, Nat.zero_le _, rfl, ho1, hb1⟩
  case round =>
    obtain ⟨k, hk, rfl, ho, hb⟩ := hrel
    by_cases hlt : k < n
    · have hkl : k / 8 < l := by omega
      have hlen := cidr_length l k
      have c0 := own_cell ho (j := k / 8) (by omega) hlen
      rw [cidr_get l k (k / 8) hkl, show k - 8 * (k / 8) = k % 8 by omega] at c0
      have f0 := own_frozen ho (k / 8) hlen
      have hx : (ob (k % 8)).toNat < 256 := (ob (k % 8)).toNat_lt
      have HO := Lib.hid (ob_or (k % 8) (by omega))
      have HS := Lib.hid (cidr_set l k (by omega))
      have HL := Lib.hid hlen
      clear hlen
      go_wp2
      go_region
      go_wp2
      go_roundw
      case rel =>
        have R := own_store ho (j := k / 8) (ob (k % 8 + 1)) HL.out
        rw [HS.out] at R
        rw [HO.out]
        exact ⟨k + 1, by omega, by go_num, R, (hb.setCell (p := ⟨w.heap.size, k / 8, none⟩) (Nat.le_refl _) _).drew⟩
      case measure => simp [intOf]; omega
    · obtain rfl : k = n := by omega
      go_wp2
      go_ret
      exact ⟨_, l, l, rfl, cidr_length _ _, ho, hb⟩
end Go.Proofs.YtkabdfmcflkkoaaDoor
