/-
  The walks of the statements FnParseMAC, FnMACForms, FnMACRoundTrip and FnParseMACAll: they return true and change nothing that was there.
-/
import Derived.Test.YtemfbjkcemhkjaaSpecMac
import Derived.Test.YtemfbjkcemhkjaaMac
namespace Go.Proofs.Ytemfbjkcemhkjaa
open Go.RowKit
set_option linter.unusedVariables false

theorem ba_list (s : ByteArray) : s = ⟨s.data.toList.toArray⟩ := by cases s; simp

set_option maxHeartbeats 400000 in
theorem FnParseMAC_list (s : List UInt8) (w : World) (hl : s.length ≤ 140737488351232) :
    Calls Try.prog 4 #[.string ⟨s.toArray⟩] w fun e w' => e = .returned (.bool true) ∧ Below w.heap.size w w' := by
  go_enter Try.func4, Try.ntmps4
  go_wp2_with fail
  refine (specMac_any s _ hl).mono ?_
  rintro e w1 ⟨A1, n1, c1, r1, rfl, hb1, hr1⟩
  rcases r1 with _ | _
  · clear hr1
    go_wp2
    go_ret
    exact ⟨rfl, hb1⟩
  · obtain ⟨hw, hn1, hf, hown1⟩ := hr1 rfl
    have HF := Lib.hid hf
    have HN1 := Lib.hid hn1
    have hle : n1 ≤ 20 := by have := hf.len; omega
    clear hr1 hn1 hf
    go_wp2_with fail
    refine (implMac_any s hw _ HF.out).mono ?_
    rintro e w2 ⟨A2, n2, c2, rfl, hn2, hown2, hb2⟩
    have HN2 := Lib.hid (show hw.length = n2 from hn2)
    have hle2 : n2 ≤ 20 := by have h1 := HN1.out; have h2 := HN2.out; omega
    clear hn2
    go_wp2_with fail
    refine (same_any _ _ _ _ _ _ hw hw _ HN2.out HN1.out (by exact Rd.of_own (xs := hw) hown2) (by exact (Rd.of_own hown1).below hb2) (by omega) true (eqb_true rfl)).mono ?_
    rintro e w3 ⟨rfl, k3, rfl⟩
    go_wp2
    go_ret
    exact ⟨rfl, below_drewN (hb1.trans (hb2.mono hb1.size)) _⟩
theorem walk_FnParseMAC (s : ByteArray) (w : World) (hz : s.size ≤ 140737488351232) :
    Calls Try.prog 4 #[.string s] w fun e w' => e = .returned (.bool true) ∧ Below w.heap.size w w' := by
  rw [ba_list s]
  exact FnParseMAC_list _ w (by simpa using hz)


set_option maxHeartbeats 1000000 in
theorem digits_any (s : List UInt8) (w : World) (hl : s.length ≤ 140737488351232) :
    Calls Try.prog 10 #[.string ⟨s.toArray⟩] w fun e w' => e = .returned (.string ⟨(digs3 s).toArray⟩) ∧ w = w' := by
  go_enter Try.func10, Try.ntmps10
  go_wp2
  go_loop [4, 3] (fun i v => ∃ (k : Nat) (l : List UInt8), k ≤ s.length ∧ i = .int .i64 k ∧ v = .string ⟨l.toArray⟩ ∧ l.length ≤ k ∧ Hid (l = digs3 (s.take k))) (fun i _ => s.length - (intOf i).toNat)
  case atStart => exact ⟨0, [], Nat.zero_le _, rfl, rfl, Nat.le_refl _, rfl⟩
  case round =>
    obtain ⟨k, l, hk, rfl, rfl, hlk, HL⟩ := hrel
    by_cases hlt : k < s.length
    · have ht : s.take (k + 1) = s.take k ++ [s[k]] := List.take_succ_eq_append_getElem hlt
      have hcut : ({ data := s.toArray } : ByteArray).extract k (k + 1) = ⟨[s[k]].toArray⟩ := by
        rw [ba_cut, ht, List.drop_append_of_le_length (by simp; omega), List.drop_of_length_le (by simp; omega)]; rfl
      have HT := Lib.hid ht
      have hix : ({ data := s.toArray } : ByteArray)[k]'hlt = s[k] := rfl
      clear ht
      generalize s[k] = x at hcut HT hix
      by_cases h1 : x = 58
      · subst h1
        have HD := Lib.hid (show digs3 (s.take (k + 1)) = l by rw [HT.out, digs3_append, ← HL.out]; simp [digs3])
        go_wp2
        go_round
        case rel => exact ⟨k + 1, l, by omega, by go_num, rfl, by omega, HD.out.symm⟩
        case measure => simp [intOf]; omega
      have t1 : ((x.toNat : Int) != 58) = true := u8nen (y := 58) h1
      by_cases h2 : x = 45
      · subst h2
        have HD := Lib.hid (show digs3 (s.take (k + 1)) = l by rw [HT.out, digs3_append, ← HL.out]; simp [digs3])
        clear h1
        go_wp2
        go_round
        case rel => exact ⟨k + 1, l, by omega, by go_num, rfl, by omega, HD.out.symm⟩
        case measure => simp [intOf]; omega
      have t2 : ((x.toNat : Int) != 45) = true := u8nen (y := 45) h2
      by_cases h3 : x = 46
      · subst h3
        have HD := Lib.hid (show digs3 (s.take (k + 1)) = l by rw [HT.out, digs3_append, ← HL.out]; simp [digs3])
        clear h1 h2
        go_wp2
        go_round
        case rel => exact ⟨k + 1, l, by omega, by go_num, rfl, by omega, HD.out.symm⟩
        case measure => simp [intOf]; omega
      have t3 : ((x.toNat : Int) != 46) = true := u8nen (y := 46) h3
      have HD := Lib.hid (show digs3 (s.take (k + 1)) = l ++ [x] by rw [HT.out, digs3_append, ← HL.out]; simp [digs3, h1, h2, h3])
      clear h1 h2 h3
      go_wp2
      go_round
      case rel => exact ⟨k + 1, l ++ [x], by omega, by go_num, by rw [ba_app], by simp; omega, HD.out.symm⟩
      case measure => simp [intOf]; omega
    · have HF := Lib.hid (show l = digs3 s by rw [HL.out, List.take_of_length_le (by omega)])
      go_wp2
      go_ret
      refine ⟨?_, rfl⟩
      rw [← HF.out]
      rfl

set_option maxHeartbeats 1000000 in
theorem FnMACForms_list (s t : List UInt8) (w : World) (hl : s.length ≤ 140737488351232) (hl2 : t.length ≤ 140737488351232) :
    Calls Try.prog 3 #[.string ⟨s.toArray⟩, .string ⟨t.toArray⟩] w fun e w' => e = .returned (.bool true) ∧ Below w.heap.size w w' := by
  go_enter Try.func3, Try.ntmps3
  go_wp2_with fail
  refine (specMac_any s _ hl).mono ?_
  rintro e w1 ⟨A1, n1, c1, r1, rfl, hb1, hr1⟩
  have HR1 := Lib.hid hr1
  clear hr1
  go_wp2_with fail
  refine (specMac_any t _ hl2).mono ?_
  rintro e w2 ⟨A2, n2, c2, r2, rfl, hb2, hr2⟩
  have HR2 := Lib.hid hr2
  clear hr2
  have hb12 := hb1.trans (hb2.mono hb1.size)
  rcases r1 with _ | _
  · go_wp2
    go_ret
    exact ⟨rfl, hb12⟩
  rcases r2 with _ | _
  · go_wp2
    go_ret
    exact ⟨rfl, hb12⟩
  obtain ⟨hw, _, hf, _⟩ := HR1.out (by simp)
  obtain ⟨hv, _, hg, _⟩ := HR2.out (by simp)
  have HF := Lib.hid hf
  have HG := Lib.hid hg
  have D1 := Lib.hid hf.digs
  have D2 := Lib.hid hg.digs
  have le1 : hw.length ≤ 20 := by have := hf.len; omega
  clear HR1 HR2 hf hg
  go_wp2_with fail
  refine (implMac_any s hw _ HF.out).mono ?_
  rintro e w3 ⟨A3, n3, c3, rfl, hn3, hown3, hb3⟩
  have HN3 := Lib.hid (show hw.length = n3 from hn3)
  have hle3 : n3 ≤ 20 := by rw [← HN3.out]; exact le1
  clear hn3
  have hb13 := hb12.trans (hb3.mono hb12.size)
  go_wp2_with fail
  refine (implMac_any t hv _ HG.out).mono ?_
  rintro e w4 ⟨A4, n4, c4, rfl, hn4, hown4, hb4⟩
  have HN4 := Lib.hid (show hv.length = n4 from hn4)
  clear hn4
  have hb14 := hb13.trans (hb4.mono hb13.size)
  go_wp2_with fail
  refine (same_any _ _ _ _ _ _ hw hv _ HN3.out HN4.out (by exact (Rd.of_own (xs := hw) hown3).below hb4) (by exact Rd.of_own (xs := hv) hown4) (by omega) _ rfl).mono ?_
  rintro e w5 ⟨rfl, k5, rfl⟩
  go_wp2_with fail
  refine (digits_any s _ hl).mono ?_
  rintro e w6 ⟨rfl, rfl⟩
  go_wp2_with fail
  refine (digits_any t _ hl2).mono ?_
  rintro e w7 ⟨rfl, rfl⟩
  rw [D1.out, D2.out]
  have key : Hid ((hex hw == hex hv) = eqb hw hv) := by
    show (hex hw == hex hv) = eqb hw hv
    rw [Bool.eq_iff_iff]
    simp only [beq_iff_eq, eqb, decide_eq_true_eq]
    exact ⟨hex_inj, fun h => by rw [h]⟩
  go_wp2
  go_ret
  refine ⟨ret_bool ?_, below_drewN hb14 _⟩
  have := key.out
  simp [this]
theorem walk_FnMACForms (s t : ByteArray) (w : World) (hz : s.size ≤ 140737488351232) (hz2 : t.size ≤ 140737488351232) :
    Calls Try.prog 3 #[.string s, .string t] w fun e w' => e = .returned (.bool true) ∧ Below w.heap.size w w' := by
  rw [ba_list s, ba_list t]
  exact FnMACForms_list _ _ w (by simpa using hz) (by simpa using hz2)

theorem mac_tx (sgn : UInt8) (xs : List UInt8) : mac [sgn] xs = tx sgn 1 xs := by
  have key : ∀ (ys : List UInt8) (i : Nat), (ys.flatMap fun y => [sgn] ++ hex2 y) = txFrom sgn 1 (i + 1) ys := by
    intro ys
    induction ys with
    | nil => intro i; rfl
    | cons y ys ih => intro i; simp only [List.flatMap_cons, txFrom, ih (i + 1), Nat.mod_one]; simp
  cases xs with
  | nil => rfl
  | cons x xs =>
    have := key xs 0
    simp only [mac, tx, txFrom, this]
    simp

set_option maxHeartbeats 400000 in
theorem FnMACRoundTrip_n (A : Option Addr) (n c : Nat) (xs : List UInt8) (w : World) (hn : xs.length = n) (hv : n = 6 ∨ n = 8 ∨ n = 20) (ha : Rd w A xs) :
    Calls Try.prog 6 #[.slice A n c] w fun e w' => e = .returned (.bool true) ∧ Below w.heap.size w w' := by
  have HF := Lib.hid (show MacForm (mac [58] xs) xs from .inr ⟨by rw [hn]; exact hv, .inl (mac_tx 58 xs)⟩)
  have HN := Lib.hid hn
  clear hn
  rcases hv with rfl | rfl | rfl
  all_goals
    go_enter Try.func6, Try.ntmps6
    go_wp2_with fail
    refine (implMACString_any _ _ _ xs _ HN.out (by exact ha) (by decide)).mono ?_
    rintro e w1 ⟨rfl, hb1⟩
    go_wp2_with fail
    refine (implMac_any _ xs _ HF.out).mono ?_
    rintro e w2 ⟨A2, n2, c2, rfl, hn2, hown2, hb2⟩
    obtain rfl := HN.out.symm.trans (show xs.length = n2 from hn2)
    clear hn2
    go_wp2_with fail
    refine (same_any _ _ _ _ _ _ xs xs _ HN.out HN.out (by exact Rd.of_own (xs := xs) hown2) (by exact (ha.below hb1).below hb2) (by decide) true (eqb_true rfl)).mono ?_
    rintro e w3 ⟨rfl, k3, rfl⟩
    go_wp2
    go_ret
    exact ⟨rfl, below_drewN (hb1.trans (hb2.mono hb1.size)) _⟩
set_option maxHeartbeats 400000 in
theorem walk_FnMACRoundTrip (A : Option Addr) (n c : Nat) (xs : List UInt8) (w : World) (hn : xs.length = n) (hc : n ≤ c) (hs : c ≤ 140737488351232) (ha : Rd w A xs) :
    Calls Try.prog 6 #[.slice A n c] w fun e w' => e = .returned (.bool true) ∧ Below w.heap.size w w' := by
  by_cases hv : n = 6 ∨ n = 8 ∨ n = 20
  · exact FnMACRoundTrip_n A n c xs w hn hv ha
  · have t1 : ((n : Int) != 6) = true := by simp; omega
    have t2 : ((n : Int) != 8) = true := by simp; omega
    have t3 : ((n : Int) != 20) = true := by simp; omega
    clear hv hn
    go_enter Try.func6, Try.ntmps6
    go_wp2
    go_ret
    exact ⟨rfl, Below.refl _ _⟩
end Go.Proofs.Ytemfbjkcemhkjaa
