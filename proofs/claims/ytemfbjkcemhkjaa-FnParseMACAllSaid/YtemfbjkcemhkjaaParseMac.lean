/-
  Contracts of net.ParseMAC on strings of the formats that the documentation lists: 6, 8 or 20 bytes of two small hexadecimal digits each, with a colon or a hyphen between all of them, or in groups of two bytes with a dot between, or 6 bytes with nothing between.
-/
import Derived.Test.YtemfbjkcemhkjaaNetMac
namespace Go.Proofs.Ytemfbjkcemhkjaa
open Go.RowKit
set_option linter.unusedVariables false

/-- the first k bytes, then zeros -/
def fillTo (xs : List UInt8) (k : Nat) : List UInt8 := xs.take k ++ List.replicate (xs.length - k) 0
theorem fillTo_zero (xs : List UInt8) : fillTo xs 0 = List.replicate xs.length 0 := by simp [fillTo]
theorem fillTo_length (xs : List UInt8) (k : Nat) (h : k ≤ xs.length) : (fillTo xs k).length = xs.length := by simp [fillTo]; omega
theorem fillTo_all (xs : List UInt8) (k : Nat) (h : xs.length ≤ k) : fillTo xs k = xs := by simp [fillTo, List.take_of_length_le h, show xs.length - k = 0 by omega]
theorem fillTo_step (xs : List UInt8) (k : Nat) (h : k < xs.length) : (fillTo xs k).set k xs[k] = fillTo xs (k + 1) := by
  unfold fillTo
  have e1 : (xs.take k).length = k := by simp; omega
  rw [List.set_append_right _ _ (by omega), e1, Nat.sub_self, show xs.length - k = (xs.length - (k + 1)) + 1 by omega, List.replicate_succ, List.set_cons_zero]
  rw [List.take_succ_eq_append_getElem h, List.append_assoc]
  rfl
theorem tx1_get2 (sep : UInt8) (hw : List UInt8) (h : 2 ≤ hw.length) : (tx sep 1 hw)[2]? = some sep := by
  match hw, h with
  | x :: y :: r, _ => simp [tx, txFrom, hex2]
theorem byte_two (x : UInt8) : (16 * ((x.toNat : Int) / 16) + (x.toNat : Int) % 16) = (x.toNat : Int) := by omega
theorem dg_ne (a : Nat) (ha : a < 16) : (((dg a).toNat : Int) == 58) = false ∧ (((dg a).toNat : Int) == 45) = false ∧ (((dg a).toNat : Int) == 46) = false := by
  rcases dg_digit a ha with ⟨h, h2⟩ | ⟨h, h2⟩ <;> (simp only [beq_eq_false_iff_ne]; omega)
theorem tx2_get (hw : List UInt8) (h : 4 ≤ hw.length) : (∃ a, a < 16 ∧ (tx 46 2 hw)[2]? = some (dg a)) ∧ (tx 46 2 hw)[4]? = some 46 := by
  match hw, h with
  | x :: y :: z :: u :: r, _ => exact ⟨⟨y.toNat / 16, by have := y.toNat_lt; omega, by simp [tx, txFrom, hex2]⟩, by simp [tx, txFrom, hex2]⟩
theorem hex_get (hw : List UInt8) (h : 3 ≤ hw.length) : (∃ a, a < 16 ∧ (hex hw)[2]? = some (dg a)) ∧ (∃ a, a < 16 ∧ (hex hw)[4]? = some (dg a)) := by
  match hw, h with
  | x :: y :: z :: r, _ => exact ⟨⟨y.toNat / 16, by have := y.toNat_lt; omega, by simp [hex, hex2]⟩, ⟨z.toNat / 16, by have := z.toNat_lt; omega, by simp [hex, hex2]⟩⟩
/-- what net.ParseMAC gives of a string in a listed format -/
def MacBack (n : Nat) (w : World) (hw : List UInt8) (e : Ending) (w' : World) : Prop :=
  e = .returned (.tuple #[.slice (some ⟨w.heap.size, 0, none⟩) n n, .nilIface]) ∧ w'.ownsRow w.heap.size 5 1 (.slice (some ⟨w.heap.size, 0, none⟩) n n) hw.length (cb hw) ∧ Below w.heap.size w w'
/-- the digits of a string in groups of four with dots between -/
def DotsAt (s hw : List UInt8) : Prop := ∀ g (h : 2 * g + 1 < hw.length), ∃ rest, s.drop (5 * g) = dg (hw[2 * g].toNat / 16) :: dg (hw[2 * g].toNat % 16) :: dg (hw[2 * g + 1].toNat / 16) :: dg (hw[2 * g + 1].toNat % 16) :: rest ∧ (rest = [] ∨ ∃ r, rest = 46 :: r)
theorem cutS {s rest : List UInt8} {k n : Nat} {l : List UInt8} (hl : s.length = n) (h : s.drop k = l ++ rest) : ({ data := s.toArray } : ByteArray).extract k n = ⟨(l ++ rest).toArray⟩ := by
  rw [ba_cut, List.take_of_length_le (by omega), h]
theorem cut2 {s rest : List UInt8} {k : Nat} {a b : UInt8} (h : s.drop k = a :: b :: rest) : ({ data := s.toArray } : ByteArray).extract k (k + 2) = ⟨[a, b].toArray⟩ := by
  rw [ba_cut, List.drop_take, h, show k + 2 - k = 2 by omega]; rfl

set_option maxRecDepth 100000 in
set_option maxHeartbeats 2000000 in
theorem parseMAC_58_6 (hw s : List UInt8) (hn : hw.length = 6) (hs : s = tx 58 1 hw) (w : World) :
    Calls Try.prog 16 #[.string ⟨s.toArray⟩] w fun e w' => MacBack 6 w hw e w' := by
  have HN := Lib.hid hn
  have hlen : s.length = 17 := by rw [hs, tx1_length, hn]
  have HD := Lib.hid (show ∀ i (h : i < hw.length), ∃ rest, s.drop (3 * i) = dg (hw[i].toNat / 16) :: dg (hw[i].toNat % 16) :: rest ∧ (rest = [] ∨ ∃ r, rest = 58 :: r) from fun i h => by rw [hs]; exact tx1_drop 58 hw i h)
  have i2 : ({ data := s.toArray } : ByteArray)[2]'(by show 2 < s.length; omega) = 58 := by
    have h := tx1_get2 58 hw (by omega)
    rw [← hs] at h
    obtain ⟨_, h'⟩ := List.getElem?_eq_some_iff.mp h
    exact h'
  clear hs hn
  have HL := Lib.hid hlen
  go_enter Try.func16, Try.ntmps16
  go_wp2
  go_step3
  go_wp2_with (refine wpList_mk8 rfl (.tmp 46) (.tmp 46) 34 rfl 5 Try.underlying34 info8 .i64 .i64 _ _ 6 rfl rfl rfl rfl (by decide) ?_)
  intro w1 hown hg
  have hb1 : Below w.heap.size w w1 := (Below.refl _ _).grown hg (Nat.le_refl _) (by simp)
  have ho1 : w1.ownsRow w.heap.size 5 1 (.slice (some ⟨w.heap.size, 0, none⟩) 6 6) (fillTo hw 0).length (cb (fillTo hw 0)) := by rw [fillTo_zero, HN.out]; exact hown
  clear hown hg
  go_wp2
  go_loopw [5, 6] (fun x i wr => ∃ k : Nat, k ≤ 6 ∧ x = .int .i64 (3 * (k : Int)) ∧ i = .int .i64 k ∧ wr.ownsRow w.heap.size 5 1 (.slice (some ⟨w.heap.size, 0, none⟩) 6 6) (fillTo hw k).length (cb (fillTo hw k)) ∧ Below w.heap.size w wr) (fun _ i _ => 6 - (intOf i).toNat)
  case atStart => exact ⟨0, by decide, rfl, rfl, ho1, hb1⟩
  case round =>
    obtain ⟨k, hk, rfl, rfl, ho, hb⟩ := hrel
    by_cases hlt : k < 6
    · have hkl : k < hw.length := by rw [HN.out]; exact hlt
      obtain ⟨rest, hd, hr⟩ := HD.out k hkl
      have hcut := cutS (l := [_, _]) HL.out hd
      have hlen2 : (fillTo hw k).length = 6 := by rw [fillTo_length _ _ (by omega), HN.out]
      have c0 := own_cell ho (j := k) (by omega) hlen2
      have f0 := own_frozen ho (k) hlen2
      generalize (fillTo hw k)[k] = y at c0
      have HS := Lib.hid (fillTo_step hw k hkl)
      have HL2 := Lib.hid hlen2
      have hrl : rest.length ≤ 140737488351232 := by have h1 := congrArg List.length hd; have h2 := HL.out; simp only [List.length_drop, List.length_cons] at h1; omega
      have HR := Lib.hid hr
      clear hlen2 hd hr
      generalize hw[k] = x at hcut HS
      have hx : x.toNat < 256 := x.toNat_lt
      have l1 : x.toNat / 16 < 16 := by omega
      have l2 : x.toNat % 16 < 16 := by omega
      go_wp2
      go_region_with ((go_at_call 20; refine (xtoi2_two (x.toNat / 16) (x.toNat % 16) rest 58 l1 l2 HR.out hrl _).mono ?_; rintro e w' ⟨rfl, rfl⟩))
      all_goals
        go_wp2
        go_roundw
        case rel =>
          have R := own_store ho (j := k) x HL2.out
          rw [HS.out] at R
          rw [byte_two x]
          exact ⟨k + 1, by omega, by go_num, by go_num, R, (hb.setCell (p := ⟨w.heap.size, k, none⟩) (Nat.le_refl _) _).drew⟩
        case measure => simp [intOf]; omega
    · have e1 : fillTo hw k = hw := fillTo_all _ _ (by rw [HN.out]; omega)
      rw [e1] at ho
      clear e1
      go_wp2
      go_ret2
      exact ⟨rfl, ho, hb⟩

set_option maxRecDepth 100000 in
set_option maxHeartbeats 2000000 in
theorem parseMAC_58_8 (hw s : List UInt8) (hn : hw.length = 8) (hs : s = tx 58 1 hw) (w : World) :
    Calls Try.prog 16 #[.string ⟨s.toArray⟩] w fun e w' => MacBack 8 w hw e w' := by
  have HN := Lib.hid hn
  have hlen : s.length = 23 := by rw [hs, tx1_length, hn]
  have HD := Lib.hid (show ∀ i (h : i < hw.length), ∃ rest, s.drop (3 * i) = dg (hw[i].toNat / 16) :: dg (hw[i].toNat % 16) :: rest ∧ (rest = [] ∨ ∃ r, rest = 58 :: r) from fun i h => by rw [hs]; exact tx1_drop 58 hw i h)
  have i2 : ({ data := s.toArray } : ByteArray)[2]'(by show 2 < s.length; omega) = 58 := by
    have h := tx1_get2 58 hw (by omega)
    rw [← hs] at h
    obtain ⟨_, h'⟩ := List.getElem?_eq_some_iff.mp h
    exact h'
  clear hs hn
  have HL := Lib.hid hlen
  go_enter Try.func16, Try.ntmps16
  go_wp2
  go_step3
  go_wp2_with (refine wpList_mk8 rfl (.tmp 46) (.tmp 46) 34 rfl 5 Try.underlying34 info8 .i64 .i64 _ _ 8 rfl rfl rfl rfl (by decide) ?_)
  intro w1 hown hg
  have hb1 : Below w.heap.size w w1 := (Below.refl _ _).grown hg (Nat.le_refl _) (by simp)
  have ho1 : w1.ownsRow w.heap.size 5 1 (.slice (some ⟨w.heap.size, 0, none⟩) 8 8) (fillTo hw 0).length (cb (fillTo hw 0)) := by rw [fillTo_zero, HN.out]; exact hown
  clear hown hg
  go_wp2
  go_loopw [5, 6] (fun x i wr => ∃ k : Nat, k ≤ 8 ∧ x = .int .i64 (3 * (k : Int)) ∧ i = .int .i64 k ∧ wr.ownsRow w.heap.size 5 1 (.slice (some ⟨w.heap.size, 0, none⟩) 8 8) (fillTo hw k).length (cb (fillTo hw k)) ∧ Below w.heap.size w wr) (fun _ i _ => 8 - (intOf i).toNat)
  case atStart => exact ⟨0, by decide, rfl, rfl, ho1, hb1⟩
  case round =>
    obtain ⟨k, hk, rfl, rfl, ho, hb⟩ := hrel
    by_cases hlt : k < 8
    · have hkl : k < hw.length := by rw [HN.out]; exact hlt
      obtain ⟨rest, hd, hr⟩ := HD.out k hkl
      have hcut := cutS (l := [_, _]) HL.out hd
      have hlen2 : (fillTo hw k).length = 8 := by rw [fillTo_length _ _ (by omega), HN.out]
      have c0 := own_cell ho (j := k) (by omega) hlen2
      have f0 := own_frozen ho (k) hlen2
      generalize (fillTo hw k)[k] = y at c0
      have HS := Lib.hid (fillTo_step hw k hkl)
      have HL2 := Lib.hid hlen2
      have hrl : rest.length ≤ 140737488351232 := by have h1 := congrArg List.length hd; have h2 := HL.out; simp only [List.length_drop, List.length_cons] at h1; omega
      have HR := Lib.hid hr
      clear hlen2 hd hr
      generalize hw[k] = x at hcut HS
      have hx : x.toNat < 256 := x.toNat_lt
      have l1 : x.toNat / 16 < 16 := by omega
      have l2 : x.toNat % 16 < 16 := by omega
      go_wp2
      go_region_with ((go_at_call 20; refine (xtoi2_two (x.toNat / 16) (x.toNat % 16) rest 58 l1 l2 HR.out hrl _).mono ?_; rintro e w' ⟨rfl, rfl⟩))
      all_goals
        go_wp2
        go_roundw
        case rel =>
          have R := own_store ho (j := k) x HL2.out
          rw [HS.out] at R
          rw [byte_two x]
          exact ⟨k + 1, by omega, by go_num, by go_num, R, (hb.setCell (p := ⟨w.heap.size, k, none⟩) (Nat.le_refl _) _).drew⟩
        case measure => simp [intOf]; omega
    · have e1 : fillTo hw k = hw := fillTo_all _ _ (by rw [HN.out]; omega)
      rw [e1] at ho
      clear e1
      go_wp2
      go_ret2
      exact ⟨rfl, ho, hb⟩

set_option maxRecDepth 100000 in
set_option maxHeartbeats 2000000 in
theorem parseMAC_58_20 (hw s : List UInt8) (hn : hw.length = 20) (hs : s = tx 58 1 hw) (w : World) :
    Calls Try.prog 16 #[.string ⟨s.toArray⟩] w fun e w' => MacBack 20 w hw e w' := by
  have HN := Lib.hid hn
  have hlen : s.length = 59 := by rw [hs, tx1_length, hn]
  have HD := Lib.hid (show ∀ i (h : i < hw.length), ∃ rest, s.drop (3 * i) = dg (hw[i].toNat / 16) :: dg (hw[i].toNat % 16) :: rest ∧ (rest = [] ∨ ∃ r, rest = 58 :: r) from fun i h => by rw [hs]; exact tx1_drop 58 hw i h)
  have i2 : ({ data := s.toArray } : ByteArray)[2]'(by show 2 < s.length; omega) = 58 := by
    have h := tx1_get2 58 hw (by omega)
    rw [← hs] at h
    obtain ⟨_, h'⟩ := List.getElem?_eq_some_iff.mp h
    exact h'
  clear hs hn
  have HL := Lib.hid hlen
  go_enter Try.func16, Try.ntmps16
  go_wp2
  go_step3
  go_wp2_with (refine wpList_mk8 rfl (.tmp 46) (.tmp 46) 34 rfl 5 Try.underlying34 info8 .i64 .i64 _ _ 20 rfl rfl rfl rfl (by decide) ?_)
  intro w1 hown hg
  have hb1 : Below w.heap.size w w1 := (Below.refl _ _).grown hg (Nat.le_refl _) (by simp)
  have ho1 : w1.ownsRow w.heap.size 5 1 (.slice (some ⟨w.heap.size, 0, none⟩) 20 20) (fillTo hw 0).length (cb (fillTo hw 0)) := by rw [fillTo_zero, HN.out]; exact hown
  clear hown hg
  go_wp2
  go_loopw [5, 6] (fun x i wr => ∃ k : Nat, k ≤ 20 ∧ x = .int .i64 (3 * (k : Int)) ∧ i = .int .i64 k ∧ wr.ownsRow w.heap.size 5 1 (.slice (some ⟨w.heap.size, 0, none⟩) 20 20) (fillTo hw k).length (cb (fillTo hw k)) ∧ Below w.heap.size w wr) (fun _ i _ => 20 - (intOf i).toNat)
  case atStart => exact ⟨0, by decide, rfl, rfl, ho1, hb1⟩
  case round =>
    obtain ⟨k, hk, rfl, rfl, ho, hb⟩ := hrel
    by_cases hlt : k < 20
    · have hkl : k < hw.length := by rw [HN.out]; exact hlt
      obtain ⟨rest, hd, hr⟩ := HD.out k hkl
      have hcut := cutS (l := [_, _]) HL.out hd
      have hlen2 : (fillTo hw k).length = 20 := by rw [fillTo_length _ _ (by omega), HN.out]
      have c0 := own_cell ho (j := k) (by omega) hlen2
      have f0 := own_frozen ho (k) hlen2
      generalize (fillTo hw k)[k] = y at c0
      have HS := Lib.hid (fillTo_step hw k hkl)
      have HL2 := Lib.hid hlen2
      have hrl : rest.length ≤ 140737488351232 := by have h1 := congrArg List.length hd; have h2 := HL.out; simp only [List.length_drop, List.length_cons] at h1; omega
      have HR := Lib.hid hr
      clear hlen2 hd hr
      generalize hw[k] = x at hcut HS
      have hx : x.toNat < 256 := x.toNat_lt
      have l1 : x.toNat / 16 < 16 := by omega
      have l2 : x.toNat % 16 < 16 := by omega
      go_wp2
      go_region_with ((go_at_call 20; refine (xtoi2_two (x.toNat / 16) (x.toNat % 16) rest 58 l1 l2 HR.out hrl _).mono ?_; rintro e w' ⟨rfl, rfl⟩))
      all_goals
        go_wp2
        go_roundw
        case rel =>
          have R := own_store ho (j := k) x HL2.out
          rw [HS.out] at R
          rw [byte_two x]
          exact ⟨k + 1, by omega, by go_num, by go_num, R, (hb.setCell (p := ⟨w.heap.size, k, none⟩) (Nat.le_refl _) _).drew⟩
        case measure => simp [intOf]; omega
    · have e1 : fillTo hw k = hw := fillTo_all _ _ (by rw [HN.out]; omega)
      rw [e1] at ho
      clear e1
      go_wp2
      go_ret2
      exact ⟨rfl, ho, hb⟩

set_option maxRecDepth 100000 in
set_option maxHeartbeats 2000000 in
theorem parseMAC_45_6 (hw s : List UInt8) (hn : hw.length = 6) (hs : s = tx 45 1 hw) (w : World) :
    Calls Try.prog 16 #[.string ⟨s.toArray⟩] w fun e w' => MacBack 6 w hw e w' := by
  have HN := Lib.hid hn
  have hlen : s.length = 17 := by rw [hs, tx1_length, hn]
  have HD := Lib.hid (show ∀ i (h : i < hw.length), ∃ rest, s.drop (3 * i) = dg (hw[i].toNat / 16) :: dg (hw[i].toNat % 16) :: rest ∧ (rest = [] ∨ ∃ r, rest = 45 :: r) from fun i h => by rw [hs]; exact tx1_drop 45 hw i h)
  have i2 : ({ data := s.toArray } : ByteArray)[2]'(by show 2 < s.length; omega) = 45 := by
    have h := tx1_get2 45 hw (by omega)
    rw [← hs] at h
    obtain ⟨_, h'⟩ := List.getElem?_eq_some_iff.mp h
    exact h'
  clear hs hn
  have HL := Lib.hid hlen
  go_enter Try.func16, Try.ntmps16
  go_wp2
  go_step3
  go_wp2_with (refine wpList_mk8 rfl (.tmp 46) (.tmp 46) 34 rfl 5 Try.underlying34 info8 .i64 .i64 _ _ 6 rfl rfl rfl rfl (by decide) ?_)
  intro w1 hown hg
  have hb1 : Below w.heap.size w w1 := (Below.refl _ _).grown hg (Nat.le_refl _) (by simp)
  have ho1 : w1.ownsRow w.heap.size 5 1 (.slice (some ⟨w.heap.size, 0, none⟩) 6 6) (fillTo hw 0).length (cb (fillTo hw 0)) := by rw [fillTo_zero, HN.out]; exact hown
  clear hown hg
  go_wp2
  go_loopw [5, 6] (fun x i wr => ∃ k : Nat, k ≤ 6 ∧ x = .int .i64 (3 * (k : Int)) ∧ i = .int .i64 k ∧ wr.ownsRow w.heap.size 5 1 (.slice (some ⟨w.heap.size, 0, none⟩) 6 6) (fillTo hw k).length (cb (fillTo hw k)) ∧ Below w.heap.size w wr) (fun _ i _ => 6 - (intOf i).toNat)
  case atStart => exact ⟨0, by decide, rfl, rfl, ho1, hb1⟩
  case round =>
    obtain ⟨k, hk, rfl, rfl, ho, hb⟩ := hrel
    by_cases hlt : k < 6
    · have hkl : k < hw.length := by rw [HN.out]; exact hlt
      obtain ⟨rest, hd, hr⟩ := HD.out k hkl
      have hcut := cutS (l := [_, _]) HL.out hd
      have hlen2 : (fillTo hw k).length = 6 := by rw [fillTo_length _ _ (by omega), HN.out]
      have c0 := own_cell ho (j := k) (by omega) hlen2
      have f0 := own_frozen ho (k) hlen2
      generalize (fillTo hw k)[k] = y at c0
      have HS := Lib.hid (fillTo_step hw k hkl)
      have HL2 := Lib.hid hlen2
      have hrl : rest.length ≤ 140737488351232 := by have h1 := congrArg List.length hd; have h2 := HL.out; simp only [List.length_drop, List.length_cons] at h1; omega
      have HR := Lib.hid hr
      clear hlen2 hd hr
      generalize hw[k] = x at hcut HS
      have hx : x.toNat < 256 := x.toNat_lt
      have l1 : x.toNat / 16 < 16 := by omega
      have l2 : x.toNat % 16 < 16 := by omega
      go_wp2
      go_region_with ((go_at_call 20; refine (xtoi2_two (x.toNat / 16) (x.toNat % 16) rest 45 l1 l2 HR.out hrl _).mono ?_; rintro e w' ⟨rfl, rfl⟩))
      all_goals
        go_wp2
        go_roundw
        case rel =>
          have R := own_store ho (j := k) x HL2.out
          rw [HS.out] at R
          rw [byte_two x]
          exact ⟨k + 1, by omega, by go_num, by go_num, R, (hb.setCell (p := ⟨w.heap.size, k, none⟩) (Nat.le_refl _) _).drew⟩
        case measure => simp [intOf]; omega
    · have e1 : fillTo hw k = hw := fillTo_all _ _ (by rw [HN.out]; omega)
      rw [e1] at ho
      clear e1
      go_wp2
      go_ret2
      exact ⟨rfl, ho, hb⟩

set_option maxRecDepth 100000 in
set_option maxHeartbeats 2000000 in
theorem parseMAC_45_8 (hw s : List UInt8) (hn : hw.length = 8) (hs : s = tx 45 1 hw) (w : World) :
    Calls Try.prog 16 #[.string ⟨s.toArray⟩] w fun e w' => MacBack 8 w hw e w' := by
  have HN := Lib.hid hn
  have hlen : s.length = 23 := by rw [hs, tx1_length, hn]
  have HD := Lib.hid (show ∀ i (h : i < hw.length), ∃ rest, s.drop (3 * i) = dg (hw[i].toNat / 16) :: dg (hw[i].toNat % 16) :: rest ∧ (rest = [] ∨ ∃ r, rest = 45 :: r) from fun i h => by rw [hs]; exact tx1_drop 45 hw i h)
  have i2 : ({ data := s.toArray } : ByteArray)[2]'(by show 2 < s.length; omega) = 45 := by
    have h := tx1_get2 45 hw (by omega)
    rw [← hs] at h
    obtain ⟨_, h'⟩ := List.getElem?_eq_some_iff.mp h
    exact h'
  clear hs hn
  have HL := Lib.hid hlen
  go_enter Try.func16, Try.ntmps16
  go_wp2
  go_step3
  go_wp2_with (refine wpList_mk8 rfl (.tmp 46) (.tmp 46) 34 rfl 5 Try.underlying34 info8 .i64 .i64 _ _ 8 rfl rfl rfl rfl (by decide) ?_)
  intro w1 hown hg
  have hb1 : Below w.heap.size w w1 := (Below.refl _ _).grown hg (Nat.le_refl _) (by simp)
  have ho1 : w1.ownsRow w.heap.size 5 1 (.slice (some ⟨w.heap.size, 0, none⟩) 8 8) (fillTo hw 0).length (cb (fillTo hw 0)) := by rw [fillTo_zero, HN.out]; exact hown
  clear hown hg
  go_wp2
  go_loopw [5, 6] (fun x i wr => ∃ k : Nat, k ≤ 8 ∧ x = .int .i64 (3 * (k : Int)) ∧ i = .int .i64 k ∧ wr.ownsRow w.heap.size 5 1 (.slice (some ⟨w.heap.size, 0, none⟩) 8 8) (fillTo hw k).length (cb (fillTo hw k)) ∧ Below w.heap.size w wr) (fun _ i _ => 8 - (intOf i).toNat)
  case atStart => exact ⟨0, by decide, rfl, rfl, ho1, hb1⟩
  case round =>
    obtain ⟨k, hk, rfl, rfl, ho, hb⟩ := hrel
    by_cases hlt : k < 8
    · have hkl : k < hw.length := by rw [HN.out]; exact hlt
      obtain ⟨rest, hd, hr⟩ := HD.out k hkl
      have hcut := cutS (l := [_, _]) HL.out hd
      have hlen2 : (fillTo hw k).length = 8 := by rw [fillTo_length _ _ (by omega), HN.out]
      have c0 := own_cell ho (j := k) (by omega) hlen2
      have f0 := own_frozen ho (k) hlen2
      generalize (fillTo hw k)[k] = y at c0
      have HS := Lib.hid (fillTo_step hw k hkl)
      have HL2 := Lib.hid hlen2
      have hrl : rest.length ≤ 140737488351232 := by have h1 := congrArg List.length hd; have h2 := HL.out; simp only [List.length_drop, List.length_cons] at h1; omega
      have HR := Lib.hid hr
      clear hlen2 hd hr
      generalize hw[k] = x at hcut HS
      have hx : x.toNat < 256 := x.toNat_lt
      have l1 : x.toNat / 16 < 16 := by omega
      have l2 : x.toNat % 16 < 16 := by omega
      go_wp2
      go_region_with ((go_at_call 20; refine (xtoi2_two (x.toNat / 16) (x.toNat % 16) rest 45 l1 l2 HR.out hrl _).mono ?_; rintro e w' ⟨rfl, rfl⟩))
      all_goals
        go_wp2
        go_roundw
        case rel =>
          have R := own_store ho (j := k) x HL2.out
          rw [HS.out] at R
          rw [byte_two x]
          exact ⟨k + 1, by omega, by go_num, by go_num, R, (hb.setCell (p := ⟨w.heap.size, k, none⟩) (Nat.le_refl _) _).drew⟩
        case measure => simp [intOf]; omega
    · have e1 : fillTo hw k = hw := fillTo_all _ _ (by rw [HN.out]; omega)
      rw [e1] at ho
      clear e1
      go_wp2
      go_ret2
      exact ⟨rfl, ho, hb⟩

set_option maxRecDepth 100000 in
set_option maxHeartbeats 2000000 in
theorem parseMAC_45_20 (hw s : List UInt8) (hn : hw.length = 20) (hs : s = tx 45 1 hw) (w : World) :
    Calls Try.prog 16 #[.string ⟨s.toArray⟩] w fun e w' => MacBack 20 w hw e w' := by
  have HN := Lib.hid hn
  have hlen : s.length = 59 := by rw [hs, tx1_length, hn]
  have HD := Lib.hid (show ∀ i (h : i < hw.length), ∃ rest, s.drop (3 * i) = dg (hw[i].toNat / 16) :: dg (hw[i].toNat % 16) :: rest ∧ (rest = [] ∨ ∃ r, rest = 45 :: r) from fun i h => by rw [hs]; exact tx1_drop 45 hw i h)
  have i2 : ({ data := s.toArray } : ByteArray)[2]'(by show 2 < s.length; omega) = 45 := by
    have h := tx1_get2 45 hw (by omega)
    rw [← hs] at h
    obtain ⟨_, h'⟩ := List.getElem?_eq_some_iff.mp h
    exact h'
  clear hs hn
  have HL := Lib.hid hlen
  go_enter Try.func16, Try.ntmps16
  go_wp2
  go_step3
  go_wp2_with (refine wpList_mk8 rfl (.tmp 46) (.tmp 46) 34 rfl 5 Try.underlying34 info8 .i64 .i64 _ _ 20 rfl rfl rfl rfl (by decide) ?_)
  intro w1 hown hg
  have hb1 : Below w.heap.size w w1 := (Below.refl _ _).grown hg (Nat.le_refl _) (by simp)
  have ho1 : w1.ownsRow w.heap.size 5 1 (.slice (some ⟨w.heap.size, 0, none⟩) 20 20) (fillTo hw 0).length (cb (fillTo hw 0)) := by rw [fillTo_zero, HN.out]; exact hown
  clear hown hg
  go_wp2
  go_loopw [5, 6] (fun x i wr => ∃ k : Nat, k ≤ 20 ∧ x = .int .i64 (3 * (k : Int)) ∧ i = .int .i64 k ∧ wr.ownsRow w.heap.size 5 1 (.slice (some ⟨w.heap.size, 0, none⟩) 20 20) (fillTo hw k).length (cb (fillTo hw k)) ∧ Below w.heap.size w wr) (fun _ i _ => 20 - (intOf i).toNat)
  case atStart => exact ⟨0, by decide, rfl, rfl, ho1, hb1⟩
  case round =>
    obtain ⟨k, hk, rfl, rfl, ho, hb⟩ := hrel
    by_cases hlt : k < 20
    · have hkl : k < hw.length := by rw [HN.out]; exact hlt
      obtain ⟨rest, hd, hr⟩ := HD.out k hkl
      have hcut := cutS (l := [_, _]) HL.out hd
      have hlen2 : (fillTo hw k).length = 20 := by rw [fillTo_length _ _ (by omega), HN.out]
      have c0 := own_cell ho (j := k) (by omega) hlen2
      have f0 := own_frozen ho (k) hlen2
      generalize (fillTo hw k)[k] = y at c0
      have HS := Lib.hid (fillTo_step hw k hkl)
      have HL2 := Lib.hid hlen2
      have hrl : rest.length ≤ 140737488351232 := by have h1 := congrArg List.length hd; have h2 := HL.out; simp only [List.length_drop, List.length_cons] at h1; omega
      have HR := Lib.hid hr
      clear hlen2 hd hr
      generalize hw[k] = x at hcut HS
      have hx : x.toNat < 256 := x.toNat_lt
      have l1 : x.toNat / 16 < 16 := by omega
      have l2 : x.toNat % 16 < 16 := by omega
      go_wp2
      go_region_with ((go_at_call 20; refine (xtoi2_two (x.toNat / 16) (x.toNat % 16) rest 45 l1 l2 HR.out hrl _).mono ?_; rintro e w' ⟨rfl, rfl⟩))
      all_goals
        go_wp2
        go_roundw
        case rel =>
          have R := own_store ho (j := k) x HL2.out
          rw [HS.out] at R
          rw [byte_two x]
          exact ⟨k + 1, by omega, by go_num, by go_num, R, (hb.setCell (p := ⟨w.heap.size, k, none⟩) (Nat.le_refl _) _).drew⟩
        case measure => simp [intOf]; omega
    · have e1 : fillTo hw k = hw := fillTo_all _ _ (by rw [HN.out]; omega)
      rw [e1] at ho
      clear e1
      go_wp2
      go_ret2
      exact ⟨rfl, ho, hb⟩

end Go.Proofs.Ytemfbjkcemhkjaa
