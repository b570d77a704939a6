/-
  Contracts of internal/bytealg.LastIndexByteString, net.SplitHostPort and impl.SplitHostPort, for every string. Condition: the length (2^49).
-/
import Derived.Test.YtkmjejgeeghjmaaDoorHostJ
namespace Go.Proofs.YtkmjejgeeghjmaaDoor
open Go.RowKit
set_option linter.unusedVariables false

/-- the last place of a byte: k; none behind it -/
def LastAt (s : List UInt8) (c : UInt8) (k : Nat) : Prop := ∃ h : k < s.length, s[k] = c ∧ ∀ j (hj : j < s.length), k < j → s[j] ≠ c

set_option maxHeartbeats 400000 in
theorem last_any (s : List UInt8) (c : UInt8) (w : World) (hs : s.length ≤ 562949953421312) :
    Calls Tryd.prog 33 #[.string ⟨s.toArray⟩, .int .u8 (c.toNat : Int)] w fun e w' =>
      (∃ k : Nat, e = .returned (.int .i64 k) ∧ LastAt s c k ∧ w = w') ∨ (e = .returned (.int .i64 (-1)) ∧ c ∉ s ∧ w = w') := by
  go_enter Tryd.func33, Tryd.ntmps33
  go_wp2
  go_loop [5] (fun i => ∃ k : Nat, k ≤ s.length ∧ i = .int .i64 ((k : Int) - 1) ∧ Hid (∀ j (hj : j < s.length), k ≤ j → s[j] ≠ c)) (fun i => (intOf i + 1).toNat)
  case atStart => exact ⟨s.length, Nat.le_refl _, rfl, fun j hj h => absurd hj (by omega)⟩
  case round =>
    obtain ⟨k, hk, rfl, HS⟩ := hrel
    rcases k with _ | k
    · go_wp2
      go_ret
      refine .inr ⟨rfl, fun hm => ?_, rfl⟩
      obtain ⟨j, hj, e⟩ := List.getElem_of_mem hm
      exact HS.out j hj (by omega) e
    · have hlt : k < s.length := by omega
      have e1 : (((k + 1 : Nat) : Int) - 1) = (k : Int) := by omega
      rw [e1]
      by_cases he : s[k] = c
      · have t1 : (((({ data := s.toArray } : ByteArray)[k]'hlt).toNat : Int) == (c.toNat : Int)) = true := u8eq he
        go_wp2
        go_ret
        refine .inl ⟨k, rfl, ⟨hlt, he, fun j hj h => HS.out j hj (by omega)⟩, rfl⟩
      · have t1 : (((({ data := s.toArray } : ByteArray)[k]'hlt).toNat : Int) == (c.toNat : Int)) = false := u8ne he
        go_wp2
        go_round
        case rel =>
          refine ⟨k, by omega, rfl, fun j hj h => ?_⟩
          rcases Nat.lt_or_ge k j with h' | h'
          · exact HS.out j hj (by omega)
          · obtain rfl : j = k := by omega
            exact he
        case measure => simp [intOf]

/-- the closure of SplitHostPort that makes an error -/
theorem addrErr_any (a b : ByteArray) (w : World) :
    Calls Tryd.prog 32 #[.string a, .string b] w fun e w' =>
      e = .returned (.tuple #[.string ⟨#[]⟩, .string ⟨#[]⟩, .iface 57 (.pointer (some ⟨w.heap.size, 0, none⟩))]) ∧ Below w.heap.size w w' := by
  go_enter Tryd.func32, Tryd.ntmps32
  go_wp2
  go_ret3
  exact ⟨rfl, (Below.refl _ _).alloc (Nat.le_refl _) _⟩

def SplitBack (w : World) (o : Option (List UInt8 × List UInt8)) (e : Ending) (w' : World) : Prop :=
  (∃ h p, o = some (h, p) ∧ e = .returned (.tuple #[.string ⟨h.toArray⟩, .string ⟨p.toArray⟩, .nilIface]) ∧ w = w') ∨
  (o = none ∧ (∃ t v, e = .returned (.tuple #[.string ⟨#[]⟩, .string ⟨#[]⟩, .iface t v])) ∧ Below w.heap.size w w')

theorem last_uniq {s : List UInt8} {c : UInt8} {k i : Nat} (hk : LastAt s c k) (hi : LastAt s c i) : k = i := by
  obtain ⟨a1, a2, a3⟩ := hk
  obtain ⟨b1, b2, b3⟩ := hi
  rcases Nat.lt_trichotomy k i with h | h | h
  · exact absurd b2 (a3 i b1 h)
  · exact h
  · exact absurd a2 (b3 k a1 h)
/-- IndexByteString of a part of a string: none, or a place -/
theorem idx_no (s : List UInt8) (a b : Nat) (c : UInt8) (h : c ∉ (s.take b).drop a) (w : World) : (callFunc 34 #[.string (({ data := s.toArray } : ByteArray).extract a b), .int .u8 (c.toNat : Int)]).run Tryd.prog w = .ok (.value (.int .i64 (-1))) w := by
  rw [ba_cut, ← ix_none h]
  exact idx_run _ c w
theorem idx_yes (s : List UInt8) (a b : Nat) (c : UInt8) (h : c ∈ (s.take b).drop a) : ∃ k : Nat, ∀ w : World, (callFunc 34 #[.string (({ data := s.toArray } : ByteArray).extract a b), .int .u8 (c.toNat : Int)]).run Tryd.prog w = .ok (.value (.int .i64 (k : Int))) w := by
  obtain ⟨k, hk, _⟩ := ix_some h
  refine ⟨k, fun w => ?_⟩
  rw [ba_cut, ← hk]
  exact idx_run _ c w

theorem split_none (s : List UInt8) (w : World) (hs : s.length ≤ 562949953421312) (hn : (58 : UInt8) ∉ s) :
    Calls Tryd.prog 26 #[.string ⟨s.toArray⟩] w fun e w' => SplitBack w none e w' := by
  have HN := Lib.hid hn
  clear hn
  go_enter Tryd.func26, Tryd.ntmps26
  go_wp2_with fail
  refine (last_any s 58 _ hs).mono ?_
  rintro e w1 (⟨k, rfl, hk, rfl⟩ | ⟨rfl, hn, rfl⟩)
  · exact absurd (by obtain ⟨a1, a2, _⟩ := hk; rw [← a2]; exact List.getElem_mem a1) HN.out
  · clear hn
    go_wp2_with fail
    refine (addrErr_any _ _ _).mono ?_
    rintro e w2 ⟨rfl, hb⟩
    go_wp2
    go_ret3
    exact .inr ⟨rfl, ⟨_, _, rfl⟩, hb⟩

set_option maxHeartbeats 1000000 in
theorem split_p1 (s : List UInt8) (i : Nat) (w : World) (hs : s.length ≤ 562949953421312) (hi : LastAt s 58 i) (h0 : ∀ h : 0 < s.length, s[0] ≠ 91) (h1 : (58 : UInt8) ∈ s.take i) :
    Calls Tryd.prog 26 #[.string ⟨s.toArray⟩] w fun e w' => SplitBack w none e w' := by
  have hlt : i < s.length := hi.1
  have hpos : 0 < s.length := by omega
  have HI := Lib.hid hi
  have t0 : (((({ data := s.toArray } : ByteArray)[0]'hpos).toNat : Int) == 91) = false := u8ne (y := 91) (h0 hpos)
  obtain ⟨q1, hx1⟩ : ∃ k : Nat, ∀ w : World, (callFunc 34 #[.string (({ data := s.toArray } : ByteArray).extract 0 i), .int .u8 58]).run Tryd.prog w = .ok (.value (.int .i64 (k : Int))) w := idx_yes s 0 i 58 (by rw [List.drop_zero]; exact h1)
  clear h0 h1
  clear hi
  go_enter Tryd.func26, Tryd.ntmps26
  go_wp2_with fail
  refine (last_any s 58 _ hs).mono ?_
  rintro e w1 (⟨k, rfl, hk, rfl⟩ | ⟨rfl, hn, rfl⟩)
  · obtain rfl := last_uniq hk HI.out
    clear hk
    have hk0 : decide ((k : Int) < 0) = false := by simp
    go_wp2_with fail
    refine (addrErr_any _ _ _).mono ?_
    rintro e w2 ⟨rfl, hb⟩
    go_wp2
    go_ret3
    exact .inr ⟨rfl, ⟨_, _, rfl⟩, hb⟩
  · exact absurd (by obtain ⟨a1, a2, _⟩ := HI.out; rw [← a2]; exact List.getElem_mem a1) hn

set_option maxHeartbeats 1000000 in
theorem split_p2 (s : List UInt8) (i : Nat) (w : World) (hs : s.length ≤ 562949953421312) (hi : LastAt s 58 i) (h0 : ∀ h : 0 < s.length, s[0] ≠ 91) (h1 : (58 : UInt8) ∉ s.take i) (h2 : (91 : UInt8) ∈ s) :
    Calls Tryd.prog 26 #[.string ⟨s.toArray⟩] w fun e w' => SplitBack w none e w' := by
  have hlt : i < s.length := hi.1
  have hpos : 0 < s.length := by omega
  have HI := Lib.hid hi
  have t0 : (((({ data := s.toArray } : ByteArray)[0]'hpos).toNat : Int) == 91) = false := u8ne (y := 91) (h0 hpos)
  have hx1 : ∀ w : World, (callFunc 34 #[.string (({ data := s.toArray } : ByteArray).extract 0 i), .int .u8 58]).run Tryd.prog w = .ok (.value (.int .i64 (-1))) w := idx_no s 0 i 58 (by rw [List.drop_zero]; exact h1)
  obtain ⟨q2, hx2⟩ : ∃ k : Nat, ∀ w : World, (callFunc 34 #[.string (({ data := s.toArray } : ByteArray).extract 0 s.length), .int .u8 91]).run Tryd.prog w = .ok (.value (.int .i64 (k : Int))) w := idx_yes s 0 s.length 91 (by rw [List.take_of_length_le (Nat.le_refl _), List.drop_zero]; exact h2)
  clear h0 h1 h2
  clear hi
  go_enter Tryd.func26, Tryd.ntmps26
  go_wp2_with fail
  refine (last_any s 58 _ hs).mono ?_
  rintro e w1 (⟨k, rfl, hk, rfl⟩ | ⟨rfl, hn, rfl⟩)
  · obtain rfl := last_uniq hk HI.out
    clear hk
    have hk0 : decide ((k : Int) < 0) = false := by simp
    go_wp2_with fail
    refine (addrErr_any _ _ _).mono ?_
    rintro e w2 ⟨rfl, hb⟩
    go_wp2
    go_ret3
    exact .inr ⟨rfl, ⟨_, _, rfl⟩, hb⟩
  · exact absurd (by obtain ⟨a1, a2, _⟩ := HI.out; rw [← a2]; exact List.getElem_mem a1) hn

set_option maxHeartbeats 1000000 in
theorem split_p3 (s : List UInt8) (i : Nat) (w : World) (hs : s.length ≤ 562949953421312) (hi : LastAt s 58 i) (h0 : ∀ h : 0 < s.length, s[0] ≠ 91) (h1 : (58 : UInt8) ∉ s.take i) (h2 : (91 : UInt8) ∉ s) (h3 : (93 : UInt8) ∈ s) :
    Calls Tryd.prog 26 #[.string ⟨s.toArray⟩] w fun e w' => SplitBack w none e w' := by
  have hlt : i < s.length := hi.1
  have hpos : 0 < s.length := by omega
  have HI := Lib.hid hi
  have t0 : (((({ data := s.toArray } : ByteArray)[0]'hpos).toNat : Int) == 91) = false := u8ne (y := 91) (h0 hpos)
  have hx1 : ∀ w : World, (callFunc 34 #[.string (({ data := s.toArray } : ByteArray).extract 0 i), .int .u8 58]).run Tryd.prog w = .ok (.value (.int .i64 (-1))) w := idx_no s 0 i 58 (by rw [List.drop_zero]; exact h1)
  have hx2 : ∀ w : World, (callFunc 34 #[.string (({ data := s.toArray } : ByteArray).extract 0 s.length), .int .u8 91]).run Tryd.prog w = .ok (.value (.int .i64 (-1))) w := idx_no s 0 s.length 91 (by rw [List.take_of_length_le (Nat.le_refl _), List.drop_zero]; exact h2)
  obtain ⟨q3, hx3⟩ : ∃ k : Nat, ∀ w : World, (callFunc 34 #[.string (({ data := s.toArray } : ByteArray).extract 0 s.length), .int .u8 93]).run Tryd.prog w = .ok (.value (.int .i64 (k : Int))) w := idx_yes s 0 s.length 93 (by rw [List.take_of_length_le (Nat.le_refl _), List.drop_zero]; exact h3)
  clear h0 h1 h2 h3
  clear hi
  go_enter Tryd.func26, Tryd.ntmps26
  go_wp2_with fail
  refine (last_any s 58 _ hs).mono ?_
  rintro e w1 (⟨k, rfl, hk, rfl⟩ | ⟨rfl, hn, rfl⟩)
  · obtain rfl := last_uniq hk HI.out
    clear hk
    have hk0 : decide ((k : Int) < 0) = false := by simp
    go_wp2_with fail
    refine (addrErr_any _ _ _).mono ?_
    rintro e w2 ⟨rfl, hb⟩
    go_wp2
    go_ret3
    exact .inr ⟨rfl, ⟨_, _, rfl⟩, hb⟩
  · exact absurd (by obtain ⟨a1, a2, _⟩ := HI.out; rw [← a2]; exact List.getElem_mem a1) hn

set_option maxHeartbeats 1000000 in
theorem split_p4 (s : List UInt8) (i : Nat) (w : World) (hs : s.length ≤ 562949953421312) (hi : LastAt s 58 i) (h0 : ∀ h : 0 < s.length, s[0] ≠ 91) (h1 : (58 : UInt8) ∉ s.take i) (h2 : (91 : UInt8) ∉ s) (h3 : (93 : UInt8) ∉ s) :
    Calls Tryd.prog 26 #[.string ⟨s.toArray⟩] w fun e w' => SplitBack w (some (s.take i, s.drop (i + 1))) e w' := by
  have hlt : i < s.length := hi.1
  have hpos : 0 < s.length := by omega
  have HI := Lib.hid hi
  have t0 : (((({ data := s.toArray } : ByteArray)[0]'hpos).toNat : Int) == 91) = false := u8ne (y := 91) (h0 hpos)
  have hx1 : ∀ w : World, (callFunc 34 #[.string (({ data := s.toArray } : ByteArray).extract 0 i), .int .u8 58]).run Tryd.prog w = .ok (.value (.int .i64 (-1))) w := idx_no s 0 i 58 (by rw [List.drop_zero]; exact h1)
  have hx2 : ∀ w : World, (callFunc 34 #[.string (({ data := s.toArray } : ByteArray).extract 0 s.length), .int .u8 91]).run Tryd.prog w = .ok (.value (.int .i64 (-1))) w := idx_no s 0 s.length 91 (by rw [List.take_of_length_le (Nat.le_refl _), List.drop_zero]; exact h2)
  have hx3 : ∀ w : World, (callFunc 34 #[.string (({ data := s.toArray } : ByteArray).extract 0 s.length), .int .u8 93]).run Tryd.prog w = .ok (.value (.int .i64 (-1))) w := idx_no s 0 s.length 93 (by rw [List.take_of_length_le (Nat.le_refl _), List.drop_zero]; exact h3)
  clear h0 h1 h2 h3
  clear hi
  go_enter Tryd.func26, Tryd.ntmps26
  go_wp2_with fail
  refine (last_any s 58 _ hs).mono ?_
  rintro e w1 (⟨k, rfl, hk, rfl⟩ | ⟨rfl, hn, rfl⟩)
  · obtain rfl := last_uniq hk HI.out
    clear hk
    have hk0 : decide ((k : Int) < 0) = false := by simp
    go_wp2
    go_ret3
    refine .inl ⟨_, _, rfl, ?_, rfl⟩
    simp [ba_cut]
  · exact absurd (by obtain ⟨a1, a2, _⟩ := HI.out; rw [← a2]; exact List.getElem_mem a1) hn

set_option maxHeartbeats 1000000 in
theorem split_b1 (s : List UInt8) (i : Nat) (w : World) (hs : s.length ≤ 562949953421312) (hi : LastAt s 58 i) (h0 : ∀ h : 0 < s.length, s[0] = 91) (h1 : (93 : UInt8) ∉ s) :
    Calls Tryd.prog 26 #[.string ⟨s.toArray⟩] w fun e w' => SplitBack w none e w' := by
  have hlt : i < s.length := hi.1
  have hpos : 0 < s.length := by omega
  have HI := Lib.hid hi
  have t0 : (((({ data := s.toArray } : ByteArray)[0]'hpos).toNat : Int) == 91) = true := u8eq (y := 91) (h0 hpos)
  have hx0 : ∀ w : World, (callFunc 34 #[.string ⟨s.toArray⟩, .int .u8 93]).run Tryd.prog w = .ok (.value (.int .i64 (-1))) w := fun w => by rw [← ix_none h1]; exact idx_run _ 93 w
  clear h0 h1
  clear hi
  go_enter Tryd.func26, Tryd.ntmps26
  go_wp2_with fail
  refine (last_any s 58 _ hs).mono ?_
  rintro e w1 (⟨k, rfl, hk, rfl⟩ | ⟨rfl, hn, rfl⟩)
  · obtain rfl := last_uniq hk HI.out
    clear hk
    have hk0 : decide ((k : Int) < 0) = false := by simp
    go_wp2_with fail
    refine (addrErr_any _ _ _).mono ?_
    rintro e w2 ⟨rfl, hb⟩
    go_wp2
    go_ret3
    exact .inr ⟨rfl, ⟨_, _, rfl⟩, hb⟩
  · exact absurd (by obtain ⟨a1, a2, _⟩ := HI.out; rw [← a2]; exact List.getElem_mem a1) hn

set_option maxHeartbeats 1000000 in
theorem split_b2 (s : List UInt8) (i : Nat) (w : World) (hs : s.length ≤ 562949953421312) (hi : LastAt s 58 i) (h0 : ∀ h : 0 < s.length, s[0] = 91) (en : Nat) (h1 : Lib.indexByte s 93 = (en : Int)) (hen : en < s.length) (hep : 0 < en) (h2 : en + 1 = s.length) :
    Calls Tryd.prog 26 #[.string ⟨s.toArray⟩] w fun e w' => SplitBack w none e w' := by
  have hlt : i < s.length := hi.1
  have hpos : 0 < s.length := by omega
  have HI := Lib.hid hi
  have t0 : (((({ data := s.toArray } : ByteArray)[0]'hpos).toNat : Int) == 91) = true := u8eq (y := 91) (h0 hpos)
  have hx0 : ∀ w : World, (callFunc 34 #[.string ⟨s.toArray⟩, .int .u8 93]).run Tryd.prog w = .ok (.value (.int .i64 (en : Int))) w := fun w => by rw [← h1]; exact idx_run _ 93 w
  have t2 : ((en : Int) + 1 == (s.length : Int)) = true := by simp; omega
  clear h0 h1 h2
  clear hi
  go_enter Tryd.func26, Tryd.ntmps26
  go_wp2_with fail
  refine (last_any s 58 _ hs).mono ?_
  rintro e w1 (⟨k, rfl, hk, rfl⟩ | ⟨rfl, hn, rfl⟩)
  · obtain rfl := last_uniq hk HI.out
    clear hk
    have hk0 : decide ((k : Int) < 0) = false := by simp
    go_wp2_with fail
    refine (addrErr_any _ _ _).mono ?_
    rintro e w2 ⟨rfl, hb⟩
    go_wp2
    go_ret3
    exact .inr ⟨rfl, ⟨_, _, rfl⟩, hb⟩
  · exact absurd (by obtain ⟨a1, a2, _⟩ := HI.out; rw [← a2]; exact List.getElem_mem a1) hn

set_option maxHeartbeats 1000000 in
theorem split_b3 (s : List UInt8) (i : Nat) (w : World) (hs : s.length ≤ 562949953421312) (hi : LastAt s 58 i) (h0 : ∀ h : 0 < s.length, s[0] = 91) (en : Nat) (h1 : Lib.indexByte s 93 = (en : Int)) (hen : en < s.length) (hep : 0 < en) (h2 : en + 1 ≠ s.length) (h3 : en + 1 ≠ i) (h4 : en + 1 < s.length) (h5 : s[en + 1] = 58) :
    Calls Tryd.prog 26 #[.string ⟨s.toArray⟩] w fun e w' => SplitBack w none e w' := by
  have hlt : i < s.length := hi.1
  have hpos : 0 < s.length := by omega
  have HI := Lib.hid hi
  have t0 : (((({ data := s.toArray } : ByteArray)[0]'hpos).toNat : Int) == 91) = true := u8eq (y := 91) (h0 hpos)
  have hx0 : ∀ w : World, (callFunc 34 #[.string ⟨s.toArray⟩, .int .u8 93]).run Tryd.prog w = .ok (.value (.int .i64 (en : Int))) w := fun w => by rw [← h1]; exact idx_run _ 93 w
  have t2 : ((en : Int) + 1 == (s.length : Int)) = false := by simp; omega
  have t3 : ((en : Int) + 1 == (i : Int)) = false := by simp; omega
  have t4 : (((({ data := s.toArray } : ByteArray)[en + 1]'h4).toNat : Int) == 58) = true := u8eq (y := 58) h5
  clear h0 h1 h2 h3 h5
  clear hi
  go_enter Tryd.func26, Tryd.ntmps26
  go_wp2_with fail
  refine (last_any s 58 _ hs).mono ?_
  rintro e w1 (⟨k, rfl, hk, rfl⟩ | ⟨rfl, hn, rfl⟩)
  · obtain rfl := last_uniq hk HI.out
    clear hk
    have hk0 : decide ((k : Int) < 0) = false := by simp
    go_wp2_with fail
    refine (addrErr_any _ _ _).mono ?_
    rintro e w2 ⟨rfl, hb⟩
    go_wp2
    go_ret3
    exact .inr ⟨rfl, ⟨_, _, rfl⟩, hb⟩
  · exact absurd (by obtain ⟨a1, a2, _⟩ := HI.out; rw [← a2]; exact List.getElem_mem a1) hn

set_option maxHeartbeats 1000000 in
theorem split_b4 (s : List UInt8) (i : Nat) (w : World) (hs : s.length ≤ 562949953421312) (hi : LastAt s 58 i) (h0 : ∀ h : 0 < s.length, s[0] = 91) (en : Nat) (h1 : Lib.indexByte s 93 = (en : Int)) (hen : en < s.length) (hep : 0 < en) (h2 : en + 1 ≠ s.length) (h3 : en + 1 ≠ i) (h4 : en + 1 < s.length) (h5 : s[en + 1] ≠ 58) :
    Calls Tryd.prog 26 #[.string ⟨s.toArray⟩] w fun e w' => SplitBack w none e w' := by
  have hlt : i < s.length := hi.1
  have hpos : 0 < s.length := by omega
  have HI := Lib.hid hi
  have t0 : (((({ data := s.toArray } : ByteArray)[0]'hpos).toNat : Int) == 91) = true := u8eq (y := 91) (h0 hpos)
  have hx0 : ∀ w : World, (callFunc 34 #[.string ⟨s.toArray⟩, .int .u8 93]).run Tryd.prog w = .ok (.value (.int .i64 (en : Int))) w := fun w => by rw [← h1]; exact idx_run _ 93 w
  have t2 : ((en : Int) + 1 == (s.length : Int)) = false := by simp; omega
  have t3 : ((en : Int) + 1 == (i : Int)) = false := by simp; omega
  have t4 : (((({ data := s.toArray } : ByteArray)[en + 1]'h4).toNat : Int) == 58) = false := u8ne (y := 58) h5
  clear h0 h1 h2 h3 h5
  clear hi
  go_enter Tryd.func26, Tryd.ntmps26
  go_wp2_with fail
  refine (last_any s 58 _ hs).mono ?_
  rintro e w1 (⟨k, rfl, hk, rfl⟩ | ⟨rfl, hn, rfl⟩)
  · obtain rfl := last_uniq hk HI.out
    clear hk
    have hk0 : decide ((k : Int) < 0) = false := by simp
    go_wp2_with fail
    refine (addrErr_any _ _ _).mono ?_
    rintro e w2 ⟨rfl, hb⟩
    go_wp2
    go_ret3
    exact .inr ⟨rfl, ⟨_, _, rfl⟩, hb⟩
  · exact absurd (by obtain ⟨a1, a2, _⟩ := HI.out; rw [← a2]; exact List.getElem_mem a1) hn

set_option maxHeartbeats 1000000 in
theorem split_b5 (s : List UInt8) (i : Nat) (w : World) (hs : s.length ≤ 562949953421312) (hi : LastAt s 58 i) (h0 : ∀ h : 0 < s.length, s[0] = 91) (en : Nat) (h1 : Lib.indexByte s 93 = (en : Int)) (hen : en < s.length) (hep : 0 < en) (h2 : en + 1 ≠ s.length) (h3 : en + 1 = i) (h4 : (91 : UInt8) ∈ s.drop 1) :
    Calls Tryd.prog 26 #[.string ⟨s.toArray⟩] w fun e w' => SplitBack w none e w' := by
  have hlt : i < s.length := hi.1
  have hpos : 0 < s.length := by omega
  have HI := Lib.hid hi
  have t0 : (((({ data := s.toArray } : ByteArray)[0]'hpos).toNat : Int) == 91) = true := u8eq (y := 91) (h0 hpos)
  have hx0 : ∀ w : World, (callFunc 34 #[.string ⟨s.toArray⟩, .int .u8 93]).run Tryd.prog w = .ok (.value (.int .i64 (en : Int))) w := fun w => by rw [← h1]; exact idx_run _ 93 w
  have t2 : ((en : Int) + 1 == (s.length : Int)) = false := by simp; omega
  have t3 : ((en : Int) + 1 == (i : Int)) = true := by simp; omega
  obtain ⟨q4, hx4⟩ : ∃ k : Nat, ∀ w : World, (callFunc 34 #[.string (({ data := s.toArray } : ByteArray).extract 1 s.length), .int .u8 91]).run Tryd.prog w = .ok (.value (.int .i64 (k : Int))) w := idx_yes s 1 s.length 91 (by rw [List.take_of_length_le (Nat.le_refl _)]; exact h4)
  clear h0 h1 h2 h3 h4
  clear hi
  go_enter Tryd.func26, Tryd.ntmps26
  go_wp2_with fail
  refine (last_any s 58 _ hs).mono ?_
  rintro e w1 (⟨k, rfl, hk, rfl⟩ | ⟨rfl, hn, rfl⟩)
  · obtain rfl := last_uniq hk HI.out
    clear hk
    have hk0 : decide ((k : Int) < 0) = false := by simp
    go_wp2_with fail
    refine (addrErr_any _ _ _).mono ?_
    rintro e w2 ⟨rfl, hb⟩
    go_wp2
    go_ret3
    exact .inr ⟨rfl, ⟨_, _, rfl⟩, hb⟩
  · exact absurd (by obtain ⟨a1, a2, _⟩ := HI.out; rw [← a2]; exact List.getElem_mem a1) hn

set_option maxHeartbeats 1000000 in
theorem split_b6 (s : List UInt8) (i : Nat) (w : World) (hs : s.length ≤ 562949953421312) (hi : LastAt s 58 i) (h0 : ∀ h : 0 < s.length, s[0] = 91) (en : Nat) (h1 : Lib.indexByte s 93 = (en : Int)) (hen : en < s.length) (hep : 0 < en) (h2 : en + 1 ≠ s.length) (h3 : en + 1 = i) (h4 : (91 : UInt8) ∉ s.drop 1) (h5 : (93 : UInt8) ∈ s.drop (en + 1)) :
    Calls Tryd.prog 26 #[.string ⟨s.toArray⟩] w fun e w' => SplitBack w none e w' := by
  have hlt : i < s.length := hi.1
  have hpos : 0 < s.length := by omega
  have HI := Lib.hid hi
  have t0 : (((({ data := s.toArray } : ByteArray)[0]'hpos).toNat : Int) == 91) = true := u8eq (y := 91) (h0 hpos)
  have hx0 : ∀ w : World, (callFunc 34 #[.string ⟨s.toArray⟩, .int .u8 93]).run Tryd.prog w = .ok (.value (.int .i64 (en : Int))) w := fun w => by rw [← h1]; exact idx_run _ 93 w
  have t2 : ((en : Int) + 1 == (s.length : Int)) = false := by simp; omega
  have t3 : ((en : Int) + 1 == (i : Int)) = true := by simp; omega
  have hx4 : ∀ w : World, (callFunc 34 #[.string (({ data := s.toArray } : ByteArray).extract 1 s.length), .int .u8 91]).run Tryd.prog w = .ok (.value (.int .i64 (-1))) w := idx_no s 1 s.length 91 (by rw [List.take_of_length_le (Nat.le_refl _)]; exact h4)
  obtain ⟨q5, hx5⟩ : ∃ k : Nat, ∀ w : World, (callFunc 34 #[.string (({ data := s.toArray } : ByteArray).extract (en + 1) s.length), .int .u8 93]).run Tryd.prog w = .ok (.value (.int .i64 (k : Int))) w := idx_yes s (en + 1) s.length 93 (by rw [List.take_of_length_le (Nat.le_refl _)]; exact h5)
  clear h0 h1 h2 h3 h4 h5
  clear hi
  go_enter Tryd.func26, Tryd.ntmps26
  go_wp2_with fail
  refine (last_any s 58 _ hs).mono ?_
  rintro e w1 (⟨k, rfl, hk, rfl⟩ | ⟨rfl, hn, rfl⟩)
  · obtain rfl := last_uniq hk HI.out
    clear hk
    have hk0 : decide ((k : Int) < 0) = false := by simp
    go_wp2_with fail
    refine (addrErr_any _ _ _).mono ?_
    rintro e w2 ⟨rfl, hb⟩
    go_wp2
    go_ret3
    exact .inr ⟨rfl, ⟨_, _, rfl⟩, hb⟩
  · exact absurd (by obtain ⟨a1, a2, _⟩ := HI.out; rw [← a2]; exact List.getElem_mem a1) hn

set_option maxHeartbeats 1000000 in
theorem split_b7 (s : List UInt8) (i : Nat) (w : World) (hs : s.length ≤ 562949953421312) (hi : LastAt s 58 i) (h0 : ∀ h : 0 < s.length, s[0] = 91) (en : Nat) (h1 : Lib.indexByte s 93 = (en : Int)) (hen : en < s.length) (hep : 0 < en) (h2 : en + 1 ≠ s.length) (h3 : en + 1 = i) (h4 : (91 : UInt8) ∉ s.drop 1) (h5 : (93 : UInt8) ∉ s.drop (en + 1)) :
    Calls Tryd.prog 26 #[.string ⟨s.toArray⟩] w fun e w' => SplitBack w (some ((s.take en).drop 1, s.drop (i + 1))) e w' := by
  have hlt : i < s.length := hi.1
  have hpos : 0 < s.length := by omega
  have HI := Lib.hid hi
  have t0 : (((({ data := s.toArray } : ByteArray)[0]'hpos).toNat : Int) == 91) = true := u8eq (y := 91) (h0 hpos)
  have hx0 : ∀ w : World, (callFunc 34 #[.string ⟨s.toArray⟩, .int .u8 93]).run Tryd.prog w = .ok (.value (.int .i64 (en : Int))) w := fun w => by rw [← h1]; exact idx_run _ 93 w
  have t2 : ((en : Int) + 1 == (s.length : Int)) = false := by simp; omega
  have t3 : ((en : Int) + 1 == (i : Int)) = true := by simp; omega
  have hx4 : ∀ w : World, (callFunc 34 #[.string (({ data := s.toArray } : ByteArray).extract 1 s.length), .int .u8 91]).run Tryd.prog w = .ok (.value (.int .i64 (-1))) w := idx_no s 1 s.length 91 (by rw [List.take_of_length_le (Nat.le_refl _)]; exact h4)
  have hx5 : ∀ w : World, (callFunc 34 #[.string (({ data := s.toArray } : ByteArray).extract (en + 1) s.length), .int .u8 93]).run Tryd.prog w = .ok (.value (.int .i64 (-1))) w := idx_no s (en + 1) s.length 93 (by rw [List.take_of_length_le (Nat.le_refl _)]; exact h5)
  clear h0 h1 h2 h3 h4 h5
  clear hi
  go_enter Tryd.func26, Tryd.ntmps26
  go_wp2_with fail
  refine (last_any s 58 _ hs).mono ?_
  rintro e w1 (⟨k, rfl, hk, rfl⟩ | ⟨rfl, hn, rfl⟩)
  · obtain rfl := last_uniq hk HI.out
    clear hk
    have hk0 : decide ((k : Int) < 0) = false := by simp
    go_wp2
    go_ret3
    refine .inl ⟨_, _, rfl, ?_, rfl⟩
    simp [ba_cut]
  · exact absurd (by obtain ⟨a1, a2, _⟩ := HI.out; rw [← a2]; exact List.getElem_mem a1) hn
end Go.Proofs.YtkmjejgeeghjmaaDoor
