/-
  Contracts of spec.Hex, net.hexString, (net.IPMask).String: two small hexadecimal digits a byte. Condition: the length (2^47).
-/
import Derived.Test.YtebnhhifodmkkaaBase
namespace Go.Proofs.Ytebnhhifodmkkaa
open Go.RowKit

def digs : List UInt8 := [48, 49, 50, 51, 52, 53, 54, 55, 56, 57, 97, 98, 99, 100, 101, 102]
/-- the digit of a number below 16 -/
def dg (n : Nat) : UInt8 := digs.getD n 0
/-- the two digits of a byte -/
def hex2 (x : UInt8) : List UInt8 := [dg (x.toNat / 16), dg (x.toNat % 16)]
def hex (xs : List UInt8) : List UInt8 := xs.flatMap hex2
theorem hex_length (xs : List UInt8) : (hex xs).length = 2 * xs.length := by
  induction xs with
  | nil => rfl
  | cons x xs ih => simp only [hex, List.flatMap_cons, List.length_append, List.length_cons] at ih ⊢; rw [ih]; simp [hex2]; omega
theorem hex_snoc (xs : List UInt8) (x : UInt8) : hex (xs ++ [x]) = hex xs ++ hex2 x := by simp [hex]
theorem take_snoc (xs : List UInt8) (k : Nat) (h : k < xs.length) : xs.take (k + 1) = xs.take k ++ [xs[k]] := by
  rw [List.take_succ_eq_append_getElem h]

theorem dig_extract (n : Nat) (h : n < 16) : ({ data := #[48, 49, 50, 51, 52, 53, 54, 55, 56, 57, 97, 98, 99, 100, 101, 102] } : ByteArray).extract n (n + 1) = ⟨[dg n].toArray⟩ := by
  have : ∀ n : Fin 16, ({ data := #[48, 49, 50, 51, 52, 53, 54, 55, 56, 57, 97, 98, 99, 100, 101, 102] } : ByteArray).extract n.val (n.val + 1) = ⟨[dg n.val].toArray⟩ := by decide +kernel
  exact this ⟨n, h⟩

set_option maxHeartbeats 1000000 in
theorem specHex_any (A : Option Addr) (n c : Nat) (xs : List UInt8) (w : World) (hn : xs.length = n) (ha : Rd w A xs) (hs : n ≤ 140737488351232) :
    Calls Try.prog 13 #[.slice A n c] w fun e w' => e = .returned (.string ⟨(hex xs).toArray⟩) ∧ ∃ k, w' = w.drewN k := by
  subst hn
  go_enter Try.func13, Try.ntmps13
  go_wp2
  go_loopw [8, 3] (fun i s wr => ∃ (k r : Nat) (l : List UInt8), k ≤ xs.length ∧ i = .int .i64 k ∧ wr = w.drewN r ∧ s = .string ⟨l.toArray⟩ ∧ l.length ≤ 2 * k ∧ Hid (l = hex (xs.take k))) (fun i _ _ => xs.length - (intOf i).toNat)
  case atStart => exact ⟨0, 0, [], Nat.zero_le _, rfl, rfl, rfl, Nat.le_refl _, rfl⟩
  case round =>
    obtain ⟨k, r, l, hk, rfl, rfl, rfl, hl, HL⟩ := hrel
    by_cases hlt : k < xs.length
    · obtain ⟨b, off, rfl, _, hc⟩ := ha.at_ hlt
      have h1 := hc k hlt
      clear hc
      have HT := Lib.hid (show hex (xs.take (k + 1)) = hex (xs.take k) ++ hex2 xs[k] by rw [take_snoc xs k hlt, hex_snoc])
      generalize xs[k] = x at h1 HT
      have hx : x.toNat < 256 := x.toNat_lt
      go_wp2
      go_quiet (fail)
      go_wp2
      go_roundw
      case rel =>
        refine ⟨k + 1, _, l ++ hex2 x, by omega, by go_num, rfl, ?_, by simp [hex2]; omega, ?_⟩
        · rw [dig_extract _ (by omega), dig_extract _ (by omega), ba_app, ba_app]
          rfl
        · show l ++ hex2 x = _
          rw [HT.out, ← HL.out]
      case measure => simp [intOf]; omega
    · go_wp2
      go_ret
      refine ⟨?_, _, rfl⟩
      have := HL.out
      rw [List.take_of_length_le (by omega)] at this
      rw [← this]
      rfl

/-- the cells behind k bytes' digits: the digits, then zeros -/
def hexTo (xs : List UInt8) (k : Nat) : List UInt8 := hex (xs.take k) ++ List.replicate (2 * (xs.length - k)) 0

theorem dig_get (n : Nat) (h : n < 16) {h' : n < ({ data := #[48, 49, 50, 51, 52, 53, 54, 55, 56, 57, 97, 98, 99, 100, 101, 102] } : ByteArray).size} : ({ data := #[48, 49, 50, 51, 52, 53, 54, 55, 56, 57, 97, 98, 99, 100, 101, 102] } : ByteArray)[n] = dg n := by
  have : ∀ n : Fin 16, ({ data := #[48, 49, 50, 51, 52, 53, 54, 55, 56, 57, 97, 98, 99, 100, 101, 102] } : ByteArray)[n.val]'n.isLt = dg n.val := by decide +kernel
  exact this ⟨n, h⟩
theorem set_end (a : List UInt8) (m : Nat) (x y : UInt8) : ((a ++ List.replicate (m + 2) 0).set a.length x).set (a.length + 1) y = a ++ [x, y] ++ List.replicate m 0 := by
  rw [List.set_append_right _ _ (Nat.le_refl _), List.set_append_right _ _ (by omega)]
  simp [List.replicate_succ]
theorem hexTo_step (xs : List UInt8) (k : Nat) (h : k < xs.length) : ((hexTo xs k).set (k * 2) (dg (xs[k].toNat / 16))).set (k * 2 + 1) (dg (xs[k].toNat % 16)) = hexTo xs (k + 1) := by
  have e1 : (hex (xs.take k)).length = k * 2 := by rw [hex_length]; simp; omega
  have e2 : 2 * (xs.length - k) = 2 * (xs.length - (k + 1)) + 2 := by omega
  unfold hexTo
  rw [e2, take_snoc xs k h, hex_snoc]
  have := set_end (hex (xs.take k)) (2 * (xs.length - (k + 1))) (dg (xs[k].toNat / 16)) (dg (xs[k].toNat % 16))
  rw [e1] at this
  exact this

set_option maxHeartbeats 1000000 in
theorem hexString_any (A : Option Addr) (n c : Nat) (xs : List UInt8) (w : World) (hn : xs.length = n) (ha : Rd w A xs) (hs : n ≤ 140737488351232) :
    Calls Try.prog 42 #[.slice A n c] w fun e w' => e = .returned (.string ⟨(hex xs).toArray⟩) ∧ Below w.heap.size w w' := by
  subst hn
  go_enter Try.func42, Try.ntmps42
  go_wp2_with (refine wpList_mk8 rfl (.tmp 8) (.tmp 8) 24 rfl 5 Try.underlying24 info8 .i64 .i64 _ _ (xs.length * 2) rfl rfl ?h1 ?h2 ?h3 ?_)
  case h1 => simp
  case h2 => simp
  case h3 => omega
  intro w1 hown hg
  have hb1 : Below w.heap.size w w1 := (Below.refl _ _).grown hg (Nat.le_refl _) (by simp)
  have hr1 := ha.below hb1
  go_wp2
  go_loopw [12] (fun i wr => ∃ k : Nat, k ≤ xs.length ∧ i = .int .i64 k ∧ wr.ownsRow w.heap.size 5 1 (.slice (some ⟨w.heap.size, 0, none⟩) (xs.length * 2) (xs.length * 2)) (hexTo xs k).length (cb (hexTo xs k)) ∧ Below w.heap.size w wr) (fun i _ => xs.length - (intOf i).toNat)
  case atStart => exact ⟨0, Nat.zero_le _, rfl, by simpa [hexTo, hex, Nat.mul_comm] using hown, hb1⟩
  case round =>
    obtain ⟨k, hk, rfl, ho, hb⟩ := hrel
    by_cases hlt : k < xs.length
    · obtain ⟨b, off, rfl, _, hc⟩ := (ha.below hb).at_ hlt
      have h1 := hc k hlt
      clear hc
      have HX := Lib.hid (hexTo_step xs k hlt)
      generalize xs[k] = x at h1 HX
      have hx : x.toNat < 256 := x.toNat_lt
      have hlen : (hexTo xs k).length = xs.length * 2 := by simp [hexTo, hex_length]; omega
      have c0 := own_cell ho (j := k * 2) (by omega) hlen
      have c1 := own_cell ho (j := k * 2 + 1) (by omega) hlen
      have f0 := own_frozen ho (k * 2) hlen
      have f1 := own_frozen ho (k * 2 + 1) hlen
      generalize (hexTo xs k)[k * 2] = y0 at c0
      generalize (hexTo xs k)[k * 2 + 1] = y1 at c1
      have HLEN := Lib.hid hlen
      clear hlen
      have x1 : (0 : Int) ≤ (x.toNat : Int) / 16 := by omega
      have x2 : (x.toNat : Int) / 16 < 16 := by omega
      have x3 : (0 : Int) ≤ (x.toNat : Int) % 16 := by omega
      have x4 : (x.toNat : Int) % 16 < 16 := by omega
      go_wp2
      go_region
      go_wp2
      go_roundw
      case rel =>
        have R := own_store (own_store ho (j := k * 2) (dg (x.toNat / 16)) HLEN.out) (j := k * 2 + 1) (dg (x.toNat % 16)) (by simpa using HLEN.out)
        rw [dig_get _ (by omega), dig_get _ (by omega)]
        rw [HX.out] at R
        exact ⟨k + 1, by omega, by go_num, R, ((hb.setCell (p := ⟨w.heap.size, k * 2, none⟩) (Nat.le_refl _) _).setCell (p := ⟨w.heap.size, k * 2 + 1, none⟩) (Nat.le_refl _) _).drew⟩
      case measure => simp [intOf]; omega
    · have hd : hexTo xs k = hex xs := by simp [hexTo, show xs.length - k = 0 by omega, List.take_of_length_le (show xs.length ≤ k by omega)]
      have hst := run_str 24 9 5 Try.underlying24 Try.underlying5 Try.underlying9 (xs.length * 2) (n := xs.length * 2) (by rw [hd, hex_length]; omega) (Rd.of_own ho)
      rw [hd] at hst
      go_wp2
      go_ret
      exact ⟨rfl, hb⟩

theorem maskString_any (A : Option Addr) (n c : Nat) (xs : List UInt8) (w : World) (hn : xs.length = n) (ha : Rd w A xs) (hs : n ≤ 140737488351232) (h0 : n ≠ 0) :
    Calls Try.prog 30 #[.slice A n c] w fun e w' => e = .returned (.string ⟨(hex xs).toArray⟩) ∧ Below w.heap.size w w' := by
  have HN := Lib.hid hn
  have hb0 : ((n : Int) == 0) = false := by simp; omega
  clear hn h0
  go_enter Try.func30, Try.ntmps30
  go_wp2_with fail
  refine (hexString_any _ _ _ xs _ HN.out (by exact ha) hs).mono ?_
  rintro e w1 ⟨rfl, hb1⟩
  go_wp2
  go_ret
  exact ⟨rfl, hb1⟩
end Go.Proofs.Ytebnhhifodmkkaa
