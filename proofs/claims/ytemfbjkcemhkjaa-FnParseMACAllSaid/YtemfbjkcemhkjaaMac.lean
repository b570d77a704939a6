/-
  Contracts of spec.MAC, (net.HardwareAddr).String, impl.MACString: two small hexadecimal digits a byte, a sign between. Condition: the length (2^46).
-/
import Derived.Test.YtemfbjkcemhkjaaSpecHex
import Derived.Test.YtemfbjkcemhkjaaBase
namespace Go.Proofs.Ytemfbjkcemhkjaa
open Go.RowKit

/-- the bytes' digits, a sign between -/
def mac (sep : List UInt8) : List UInt8 → List UInt8
  | [] => []
  | x :: xs => hex2 x ++ xs.flatMap fun y => sep ++ hex2 y
theorem mac_snoc (sep xs : List UInt8) (x : UInt8) (h : xs ≠ []) : mac sep (xs ++ [x]) = mac sep xs ++ (sep ++ hex2 x) := by
  cases xs with
  | nil => exact absurd rfl h
  | cons y ys => simp [mac]
theorem mac_one (sep : List UInt8) (x : UInt8) : mac sep [x] = hex2 x := by simp [mac]
theorem mac_take0 (sep xs : List UInt8) (h : 0 < xs.length) : mac sep (xs.take 1) = hex2 xs[0] := by
  cases xs with
  | nil => simp at h
  | cons y ys => simp [mac]
theorem mac_takeS (sep xs : List UInt8) (k : Nat) (h0 : 0 < k) (h : k < xs.length) : mac sep (xs.take (k + 1)) = mac sep (xs.take k) ++ (sep ++ hex2 xs[k]) := by
  rw [take_snoc xs k h]
  refine mac_snoc sep _ _ (fun e => ?_)
  have := congrArg List.length e
  rw [List.length_take, List.length_nil] at this
  omega
theorem hex_one (x : UInt8) : hex [x] = hex2 x := by simp [hex]

set_option maxHeartbeats 1000000 in
theorem specMAC_any (A : Option Addr) (n c : Nat) (xs : List UInt8) (sgn : UInt8) (w : World) (hn : xs.length = n) (hc : n ≤ c) (ha : Rd w A xs) (hs : c ≤ 140737488351232) :
    Calls Try.prog 11 #[.slice A n c, .string ⟨[sgn].toArray⟩] w fun e w' => e = .returned (.string ⟨(mac [sgn] xs).toArray⟩) ∧ ∃ k, w' = w.drewN k := by
  subst hn
  go_enter Try.func11, Try.ntmps11
  go_wp2
  go_loopw [9, 5] (fun i s wr => ∃ (k r : Nat) (l : List UInt8), k ≤ xs.length ∧ i = .int .i64 k ∧ wr = w.drewN r ∧ s = .string ⟨l.toArray⟩ ∧ l.length ≤ 3 * k ∧ Hid (l = mac [sgn] (xs.take k))) (fun i _ _ => xs.length - (intOf i).toNat)
  case atStart => exact ⟨0, 0, [], Nat.zero_le _, rfl, rfl, rfl, Nat.le_refl _, rfl⟩
  case round =>
    obtain ⟨k, r, l, hk, rfl, rfl, rfl, hl, HL⟩ := hrel
    by_cases hlt : k < xs.length
    · obtain ⟨b, off, rfl, _, _⟩ := ha.at_ hlt
      have hcut := ha.cut k 1
      have ecut : (xs.drop k).take 1 = [xs[k]] := by rw [List.drop_eq_getElem_cons hlt]; rfl
      rw [ecut] at hcut
      clear ecut
      rcases k with _ | k
      · have HT := Lib.hid (show mac [sgn] (xs.take 1) = l ++ hex2 xs[0] by
          rw [HL.out, mac_take0 _ _ hlt]; simp [mac])
        generalize xs[0] = x at hcut HT
        go_wp2_with fail
        refine (specHex_any _ 1 _ [x] _ rfl (by exact hcut.drewN _) (by decide)).mono ?_
        rintro e w2 ⟨rfl, k2, rfl⟩
        rw [hex_one]
        have h2 : (hex2 x).length ≤ 2 := Nat.le_refl _
        go_wp2
        go_roundw
        case rel =>
          exact ⟨1, r + k2, l ++ hex2 x, by omega, rfl, rfl, by rw [ba_app], by simp [hex2]; omega, HT.out.symm⟩
        case measure => simp [intOf]; omega
      · have HT := Lib.hid (show mac [sgn] (xs.take (k + 1 + 1)) = l ++ ([sgn] ++ hex2 xs[k + 1]) by
          rw [HL.out, mac_takeS _ _ (k + 1) (by omega) hlt])
        generalize xs[k + 1] = x at hcut HT
        go_wp2_with fail
        refine (specHex_any _ 1 _ [x] _ rfl (by exact hcut.drewN _) (by decide)).mono ?_
        rintro e w2 ⟨rfl, k2, rfl⟩
        rw [hex_one]
        have h2 : (hex2 x).length ≤ 2 := Nat.le_refl _
        go_wp2
        go_roundw
        case rel =>
          exact ⟨k + 1 + 1, r + k2, l ++ ([sgn] ++ hex2 x), by omega, by go_num, rfl, by rw [ba_app, ba_app]; simp, by simp [hex2]; omega, HT.out.symm⟩
        case measure => simp [intOf]; omega
    · go_wp2
      go_ret
      refine ⟨?_, _, rfl⟩
      have := HL.out
      rw [List.take_of_length_le (by omega)] at this
      rw [← this]
      rfl

/-- what an append onto a row of the call's own leaves: nothing old has changed -/
theorem own_below {w wr w' : World} {e : TypeId} {v : Value} {o : Obj} {n : Nat} {xs : List Value} (ho : wr.ownsRow w.heap.size e 1 v n xs) (hb : Below w.heap.size w wr) (hg : (wr.alloc o).grownBy w' v.ownBlock) : Below w.heap.size w w' :=
  (hb.alloc hb.size o).grown hg (by have := hb.size; simp; omega) fun k hk => (ho.lt k hk).1

set_option maxHeartbeats 1000000 in
theorem hwString_any (A : Option Addr) (n c : Nat) (xs : List UInt8) (w : World) (hn : xs.length = n) (ha : Rd w A xs) (hs : n ≤ 35184372088832) :
    Calls Try.prog 18 #[.slice A n c] w fun e w' => e = .returned (.string ⟨(mac [58] xs).toArray⟩) ∧ Below w.heap.size w w' := by
  subst hn
  by_cases h0 : xs = []
  · subst h0
    go_enter Try.func18, Try.ntmps18
    go_wp2
    go_ret
    exact ⟨rfl, Below.refl _ _⟩
  have hpos : 0 < xs.length := List.length_pos_iff.mpr h0
  have hz : ((xs.length : Int) == 0) = false := by simp; omega
  obtain ⟨i8, hi8, hz0, hz1, hz2⟩ := info_parts info8
  go_enter Try.func18, Try.ntmps18
  go_wp2_with (refine wpList_make_own _ rfl _ _ 22 rfl w.heap.size 5 i8 (.int .u8 0) 1 Try.underlying22 hi8 hz0 hz1 .i64 .i64 _ (xs.length * 3 - 1) rfl rfl ?h1 ?h2 ?h3 (Nat.le_refl _) ?_)
  case h1 => omega
  case h2 => rw [hz2]; omega
  case h3 => simp only [maxLen]; omega
  intro w1 hown hg
  have hb1 : Below w.heap.size w w1 := (Below.refl _ _).grown hg (Nat.le_refl _) (by simp)
  go_wp2
  go_loopw [16, 3] (fun i s wr => ∃ (k : Nat) (l : List UInt8) (A : Option Addr) (c : Nat), k ≤ xs.length ∧ i = .int .i64 k ∧ s = .slice A l.length c ∧ l.length ≤ 3 * k ∧ wr.ownsRow w.heap.size 5 1 (.slice A l.length c) l.length (cb l) ∧ Below w.heap.size w wr ∧ Hid (l = mac [58] (xs.take k))) (fun i _ _ => xs.length - (intOf i).toNat)
  case atStart => exact ⟨0, [], _, _, Nat.zero_le _, rfl, rfl, Nat.le_refl _, hown, hb1, rfl⟩
  case round =>
    obtain ⟨k, l, A1, c1, hk, rfl, rfl, hl, ho, hb, HL⟩ := hrel
    by_cases hlt : k < xs.length
    · obtain ⟨b, off, rfl, _, hcell⟩ := (ha.below hb).at_ hlt
      have h1 := hcell k hlt
      clear hcell
      have x1 : xs[k].toNat / 16 < 16 := by have := xs[k].toNat_lt; omega
      have x2 : xs[k].toNat % 16 < 16 := by omega
      have hbs := hb.size
      rcases k with _ | k
      · have HT := Lib.hid (show mac [58] (xs.take 1) = l ++ hex2 xs[0] by
          rw [HL.out, mac_take0 _ _ hlt]; simp [mac])
        generalize xs[0] = x at h1 HT x1 x2
        have hx : x.toNat < 256 := x.toNat_lt
        simp only [Nat.add_zero] at h1
        have z1 : (0 : Int) ≤ (x.toNat : Int) / 16 := by omega
        have z2 : (x.toNat : Int) / 16 < 16 := by omega
        have z3 : (0 : Int) ≤ (x.toNat : Int) % 16 := by omega
        have z4 : (x.toNat : Int) % 16 < 16 := by omega
        go_wp2_with (first
          | (at_builtin; refine wpList_app rfl (.tmp 26) (.tmp 30) 22 rfl w.heap.size 5 Try.underlying22 info8 _ l (l.length + 1) rfl (ho.alloc _) _ 1 1 [dg (x.toNat / 16)] rfl rfl (Rd.new _ _ _ _ (by simp [cb, dig_get _ x1])) rfl (by omega) (by simp; omega) ?_; intro A2 c2 w2 ho2 hg2 hat2; have hb2 := own_below ho hb hg2; have hb2s := hb2.size)
          | (at_builtin; refine wpList_app rfl (.tmp 32) (.tmp 36) 22 rfl w.heap.size 5 Try.underlying22 info8 _ (l ++ [dg (x.toNat / 16)]) (l.length + 1 + 1) rfl (ho2.alloc _) _ 1 1 [dg (x.toNat % 16)] rfl rfl (Rd.new _ _ _ _ (by simp [cb, dig_get _ x2])) (by simp) (by omega) (by simp; omega) ?_; intro A3 c3 w3 ho3 hg3 hat3; have hb3 := own_below ho2 hb2 hg3))
        go_roundw
        case rel =>
          refine ⟨1, l ++ hex2 x, A3, c3, by omega, rfl, ?_, by simp [hex2]; omega, ?_, hb3, HT.out.symm⟩
          · simp [hex2]
          · have e1 : (l ++ hex2 x).length = l.length + 1 + 1 := by simp [hex2]
            have e2 : l ++ [dg (x.toNat / 16)] ++ [dg (x.toNat % 16)] = l ++ hex2 x := by simp [hex2]
            rw [e2, e1] at ho3
            rw [e1]
            exact ho3
        case measure => simp [intOf]; omega
      · have HT := Lib.hid (show mac [58] (xs.take (k + 1 + 1)) = l ++ ([58] ++ hex2 xs[k + 1]) by
          rw [HL.out, mac_takeS _ _ (k + 1) (by omega) hlt])
        generalize xs[k + 1] = x at h1 HT x1 x2
        have hx : x.toNat < 256 := x.toNat_lt
        have z1 : (0 : Int) ≤ (x.toNat : Int) / 16 := by omega
        have z2 : (x.toNat : Int) / 16 < 16 := by omega
        have z3 : (0 : Int) ≤ (x.toNat : Int) % 16 := by omega
        have z4 : (x.toNat : Int) % 16 < 16 := by omega
        go_wp2_with (first
          | (at_builtin; refine wpList_app rfl (.tmp 23) (.tmp 24) 22 rfl w.heap.size 5 Try.underlying22 info8 _ (l) (l.length + 1) rfl (ho.alloc _) _ 1 1 [58] rfl rfl (Rd.new _ _ _ _ (rfl)) (rfl) (by omega) (by simp; omega) ?_; intro A2 c2 w2 ho2 hg2 hat2; have hb2 := own_below ho hb hg2; have hb2s := hb2.size)
          | (at_builtin; refine wpList_app rfl (.tmp 26) (.tmp 30) 22 rfl w.heap.size 5 Try.underlying22 info8 _ (l ++ [58]) (l.length + 1 + 1) rfl (ho2.alloc _) _ 1 1 [dg (x.toNat / 16)] rfl rfl (Rd.new _ _ _ _ (by simp [cb, dig_get _ x1])) (by simp) (by omega) (by simp; omega) ?_; intro A3 c3 w3 ho3 hg3 hat3; have hb3 := own_below ho2 hb2 hg3; have hb3s := hb3.size)
          | (at_builtin; refine wpList_app rfl (.tmp 32) (.tmp 36) 22 rfl w.heap.size 5 Try.underlying22 info8 _ (l ++ [58] ++ [dg (x.toNat / 16)]) (l.length + 1 + 1 + 1) rfl (ho3.alloc _) _ 1 1 [dg (x.toNat % 16)] rfl rfl (Rd.new _ _ _ _ (by simp [cb, dig_get _ x2])) (by simp) (by omega) (by simp; omega) ?_; intro A4 c4 w4 ho4 hg4 hat4; have hb4 := own_below ho3 hb3 hg4; have hb4s := hb4.size))
        go_roundw
        case rel =>
          refine ⟨k + 1 + 1, l ++ ([58] ++ hex2 x), A4, c4, by omega, by go_num, ?_, by simp [hex2]; omega, ?_, hb4, HT.out.symm⟩
          · simp [hex2]
          · have e1 : (l ++ ([58] ++ hex2 x)).length = l.length + 1 + 1 + 1 := by simp [hex2]
            have e2 : l ++ [58] ++ [dg (x.toNat / 16)] ++ [dg (x.toNat % 16)] = l ++ ([58] ++ hex2 x) := by simp [hex2]
            rw [e2, e1] at ho4
            rw [e1]
            exact ho4
        case measure => simp [intOf]; omega
    · have hst := run_str 22 9 5 Try.underlying22 Try.underlying5 Try.underlying9 c1 rfl (Rd.of_own ho)
      have HF := Lib.hid (show l = mac [58] xs by rw [HL.out, List.take_of_length_le (by omega)])
      go_wp2
      go_ret
      refine ⟨?_, hb⟩
      rw [← HF.out]
      rfl

set_option maxHeartbeats 400000 in
theorem implMACString_any (A : Option Addr) (n c : Nat) (xs : List UInt8) (w : World) (hn : xs.length = n) (ha : Rd w A xs) (hs : n ≤ 35184372088832) :
    Calls Try.prog 14 #[.slice A n c] w fun e w' => e = .returned (.string ⟨(mac [58] xs).toArray⟩) ∧ Below w.heap.size w w' := by
  have HN := Lib.hid hn
  clear hn
  go_enter Try.func14, Try.ntmps14
  go_wp2_with fail
  refine (plain_any _ _ _ xs _ HN.out (by exact ha) (by omega)).mono ?_
  rintro e w1 ⟨A1, n1, c1, rfl, hn1, hown1, hb1⟩
  have hl1 : n1 ≤ 35184372088832 := by have := HN.out; omega
  have HN1 := Lib.hid hn1
  clear hn1
  go_wp2_with fail
  refine (hwString_any _ _ _ xs _ HN1.out (by exact Rd.of_own hown1) hl1).mono ?_
  rintro e w2 ⟨rfl, hb2⟩
  go_wp2
  go_ret
  exact ⟨rfl, hb1.trans (hb2.mono hb1.size)⟩
end Go.Proofs.Ytemfbjkcemhkjaa
