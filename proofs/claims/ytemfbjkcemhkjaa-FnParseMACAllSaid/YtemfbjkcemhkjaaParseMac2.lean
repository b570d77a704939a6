/-
  Contracts of net.ParseMAC on strings in groups of two bytes with a dot between, and on 6 bytes with nothing between.
-/
import Derived.Test.YtemfbjkcemhkjaaParseMac
import Derived.IntWalk
namespace Go.Proofs.Ytemfbjkcemhkjaa
open Go.RowKit
set_option linter.unusedVariables false

set_option maxRecDepth 100000 in
set_option maxHeartbeats 4000000 in
theorem parseMAC_dots_6 (hw s : List UInt8) (hn : hw.length = 6) (hs : s = tx 46 2 hw) (w : World) :
    Calls Try.prog 16 #[.string ⟨s.toArray⟩] w fun e w' => MacBack 6 w hw e w' := by
  have HN := Lib.hid hn
  have hlen : s.length = 14 := by rw [hs, tx2_length 46 3 hw hn]
  have HD := Lib.hid (show DotsAt s hw from fun g h => by rw [hs]; exact tx2_drop 46 hw 3 g hn h)
  obtain ⟨⟨a, ha, g2⟩, g4⟩ := tx2_get hw (by omega)
  rw [← hs] at g2 g4
  have i2 : ({ data := s.toArray } : ByteArray)[2]'(by show 2 < s.length; omega) = dg a := by
    obtain ⟨_, h'⟩ := List.getElem?_eq_some_iff.mp g2
    exact h'
  have i4 : ({ data := s.toArray } : ByteArray)[4]'(by show 4 < s.length; omega) = 46 := by
    obtain ⟨_, h'⟩ := List.getElem?_eq_some_iff.mp g4
    exact h'
  obtain ⟨n1, n2, n3⟩ := dg_ne a ha
  clear hs hn g2 g4
  have HL := Lib.hid hlen
  go_enter Try.func16, Try.ntmps16
  go_wp2
  go_step3
  go_wp2_with (refine wpList_mk8 rfl (.tmp 92) (.tmp 92) 34 rfl 5 Try.underlying34 info8 .i64 .i64 _ _ 6 rfl rfl rfl rfl (by decide) ?_)
  intro w1 hown hg
  have hb1 : Below w.heap.size w w1 := (Below.refl _ _).grown hg (Nat.le_refl _) (by simp)
  have ho1 : w1.ownsRow w.heap.size 5 1 (.slice (some ⟨w.heap.size, 0, none⟩) 6 6) (fillTo hw 0).length (cb (fillTo hw 0)) := by rw [fillTo_zero, HN.out]; exact hown
  clear hown hg
  go_wp2
  go_loopw [9, 10] (fun x i wr => ∃ k : Nat, k ≤ 3 ∧ x = .int .i64 (5 * (k : Int)) ∧ i = .int .i64 (2 * (k : Int)) ∧ wr.ownsRow w.heap.size 5 1 (.slice (some ⟨w.heap.size, 0, none⟩) 6 6) (fillTo hw (2 * k)).length (cb (fillTo hw (2 * k))) ∧ Below w.heap.size w wr) (fun _ i _ => 6 - (intOf i).toNat)
  case atStart => exact ⟨0, by decide, rfl, rfl, ho1, hb1⟩
  case round =>
    obtain ⟨k, hk, rfl, rfl, ho, hb⟩ := hrel
    by_cases hlt : k < 3
    · have hkl : 2 * k + 1 < hw.length := by rw [HN.out]; omega
      obtain ⟨rest, hd, hr⟩ := HD.out k hkl
      have hcut := cut2 hd
      have hd2 : s.drop (5 * k + 2) = dg (hw[2 * k + 1].toNat / 16) :: dg (hw[2 * k + 1].toNat % 16) :: rest := by
        rw [← List.drop_drop, hd]; rfl
      have hcut2 := cutS (l := [_, _]) HL.out hd2
      have hlen2 : (fillTo hw (2 * k)).length = 6 := by rw [fillTo_length _ _ (by omega), HN.out]
      have hlen3 : (fillTo hw (2 * k + 1)).length = 6 := by rw [fillTo_length _ _ (by omega), HN.out]
      have S1 := own_store ho (j := 2 * k) hw[2 * k] hlen2
      rw [fillTo_step hw (2 * k) (by omega)] at S1
      have c0 := own_cell ho (j := 2 * k) (by omega) hlen2
      have f0 := own_frozen ho (2 * k) hlen2
      have c1 := own_cell S1 (j := 2 * k + 1) (by omega) hlen3
      have f1 := own_frozen S1 (2 * k + 1) hlen3
      have S2 := own_store S1 (j := 2 * k + 1) hw[2 * k + 1] hlen3
      rw [fillTo_step hw (2 * k + 1) (by omega)] at S2
      generalize (fillTo hw (2 * k))[2 * k] = y0 at c0
      generalize (fillTo hw (2 * k + 1))[2 * k + 1] = y1 at c1
      have hrl : rest.length ≤ 140737488351232 := by have h1 := congrArg List.length hd; have h2 := HL.out; simp only [List.length_drop, List.length_cons] at h1; omega
      have HR := Lib.hid hr
      clear hlen2 hlen3 hd hd2 hr
      generalize hw[2 * k] = x at hcut S1 S2 c1 f1
      generalize hw[2 * k + 1] = z at hcut2 S2
      have hx : x.toNat < 256 := x.toNat_lt
      have hz : z.toNat < 256 := z.toNat_lt
      have l1 : x.toNat / 16 < 16 := by omega
      have l2 : x.toNat % 16 < 16 := by omega
      have l3 : z.toNat / 16 < 16 := by omega
      have l4 : z.toNat % 16 < 16 := by omega
      have bx := byte_two x
      go_wp2_with (go_at_call 20; refine (xtoi2_two (x.toNat / 16) (x.toNat % 16) [] 0 l1 l2 (.inl rfl) (by decide) _).mono ?_; rintro e w' ⟨rfl, rfl⟩)
      have u1 : IntKind.i64.wrap (5 * (k : Int) + 2) = 5 * (k : Int) + 2 := IntWalk.i64_in _ (by omega)
      have u2 : (5 * (k : Int) + 2).toNat = 5 * k + 2 := by omega
      have u3 : 0 ≤ 5 * (k : Int) + 2 := by omega
      have u4 : 5 * (k : Int) + 2 ≤ 14 := by omega
      have v1 : IntKind.i64.wrap (2 * (k : Int) + 1) = 2 * (k : Int) + 1 := IntWalk.i64_in _ (by omega)
      have v2 : (2 * (k : Int) + 1).toNat = 2 * k + 1 := by omega
      have v3 : 0 ≤ 2 * (k : Int) + 1 := by omega
      have v4 : 2 * (k : Int) + 1 < 6 := by omega
      have v5 : 2 * k + 1 < 6 := by omega
      have u5 : 5 * k + 2 ≤ 14 := by omega
      go_region_with ((go_at_call 20; refine (xtoi2_two (z.toNat / 16) (z.toNat % 16) rest 46 l3 l4 HR.out hrl _).mono ?_; rintro e w' ⟨rfl, rfl⟩))
      all_goals
        clear u1 u2 u3 u4 u5 v1 v2 v3 v4 v5
        go_wp2
        go_roundw
        case rel =>
          rw [byte_two z]
          exact ⟨k + 1, by omega, by go_num, by go_num, S2, ((hb.setCell (p := ⟨w.heap.size, 2 * k, none⟩) (Nat.le_refl _) _).setCell (p := ⟨w.heap.size, 2 * k + 1, none⟩) (Nat.le_refl _) _).drew⟩
        case measure => simp [intOf]; omega
    · have e1 : fillTo hw (2 * k) = hw := fillTo_all _ _ (by rw [HN.out]; omega)
      rw [e1] at ho
      clear e1
      go_wp2
      go_ret2
      exact ⟨rfl, ho, hb⟩

set_option maxRecDepth 100000 in
set_option maxHeartbeats 4000000 in
theorem parseMAC_dots_8 (hw s : List UInt8) (hn : hw.length = 8) (hs : s = tx 46 2 hw) (w : World) :
    Calls Try.prog 16 #[.string ⟨s.toArray⟩] w fun e w' => MacBack 8 w hw e w' := by
  have HN := Lib.hid hn
  have hlen : s.length = 19 := by rw [hs, tx2_length 46 4 hw hn]
  have HD := Lib.hid (show DotsAt s hw from fun g h => by rw [hs]; exact tx2_drop 46 hw 4 g hn h)
  obtain ⟨⟨a, ha, g2⟩, g4⟩ := tx2_get hw (by omega)
  rw [← hs] at g2 g4
  have i2 : ({ data := s.toArray } : ByteArray)[2]'(by show 2 < s.length; omega) = dg a := by
    obtain ⟨_, h'⟩ := List.getElem?_eq_some_iff.mp g2
    exact h'
  have i4 : ({ data := s.toArray } : ByteArray)[4]'(by show 4 < s.length; omega) = 46 := by
    obtain ⟨_, h'⟩ := List.getElem?_eq_some_iff.mp g4
    exact h'
  obtain ⟨n1, n2, n3⟩ := dg_ne a ha
  clear hs hn g2 g4
  have HL := Lib.hid hlen
  go_enter Try.func16, Try.ntmps16
  go_wp2
  go_step3
  go_wp2_with (refine wpList_mk8 rfl (.tmp 92) (.tmp 92) 34 rfl 5 Try.underlying34 info8 .i64 .i64 _ _ 8 rfl rfl rfl rfl (by decide) ?_)
  intro w1 hown hg
  have hb1 : Below w.heap.size w w1 := (Below.refl _ _).grown hg (Nat.le_refl _) (by simp)
  have ho1 : w1.ownsRow w.heap.size 5 1 (.slice (some ⟨w.heap.size, 0, none⟩) 8 8) (fillTo hw 0).length (cb (fillTo hw 0)) := by rw [fillTo_zero, HN.out]; exact hown
  clear hown hg
  go_wp2
  go_loopw [9, 10] (fun x i wr => ∃ k : Nat, k ≤ 4 ∧ x = .int .i64 (5 * (k : Int)) ∧ i = .int .i64 (2 * (k : Int)) ∧ wr.ownsRow w.heap.size 5 1 (.slice (some ⟨w.heap.size, 0, none⟩) 8 8) (fillTo hw (2 * k)).length (cb (fillTo hw (2 * k))) ∧ Below w.heap.size w wr) (fun _ i _ => 8 - (intOf i).toNat)
  case atStart => exact ⟨0, by decide, rfl, rfl, ho1, hb1⟩
  case round =>
    obtain ⟨k, hk, rfl, rfl, ho, hb⟩ := hrel
    by_cases hlt : k < 4
    · have hkl : 2 * k + 1 < hw.length := by rw [HN.out]; omega
      obtain ⟨rest, hd, hr⟩ := HD.out k hkl
      have hcut := cut2 hd
      have hd2 : s.drop (5 * k + 2) = dg (hw[2 * k + 1].toNat / 16) :: dg (hw[2 * k + 1].toNat % 16) :: rest := by
        rw [← List.drop_drop, hd]; rfl
      have hcut2 := cutS (l := [_, _]) HL.out hd2
      have hlen2 : (fillTo hw (2 * k)).length = 8 := by rw [fillTo_length _ _ (by omega), HN.out]
      have hlen3 : (fillTo hw (2 * k + 1)).length = 8 := by rw [fillTo_length _ _ (by omega), HN.out]
      have S1 := own_store ho (j := 2 * k) hw[2 * k] hlen2
      rw [fillTo_step hw (2 * k) (by omega)] at S1
      have c0 := own_cell ho (j := 2 * k) (by omega) hlen2
      have f0 := own_frozen ho (2 * k) hlen2
      have c1 := own_cell S1 (j := 2 * k + 1) (by omega) hlen3
      have f1 := own_frozen S1 (2 * k + 1) hlen3
      have S2 := own_store S1 (j := 2 * k + 1) hw[2 * k + 1] hlen3
      rw [fillTo_step hw (2 * k + 1) (by omega)] at S2
      generalize (fillTo hw (2 * k))[2 * k] = y0 at c0
      generalize (fillTo hw (2 * k + 1))[2 * k + 1] = y1 at c1
      have hrl : rest.length ≤ 140737488351232 := by have h1 := congrArg List.length hd; have h2 := HL.out; simp only [List.length_drop, List.length_cons] at h1; omega
      have HR := Lib.hid hr
      clear hlen2 hlen3 hd hd2 hr
      generalize hw[2 * k] = x at hcut S1 S2 c1 f1
      generalize hw[2 * k + 1] = z at hcut2 S2
      have hx : x.toNat < 256 := x.toNat_lt
      have hz : z.toNat < 256 := z.toNat_lt
      have l1 : x.toNat / 16 < 16 := by omega
      have l2 : x.toNat % 16 < 16 := by omega
      have l3 : z.toNat / 16 < 16 := by omega
      have l4 : z.toNat % 16 < 16 := by omega
      have bx := byte_two x
      go_wp2_with (go_at_call 20; refine (xtoi2_two (x.toNat / 16) (x.toNat % 16) [] 0 l1 l2 (.inl rfl) (by decide) _).mono ?_; rintro e w' ⟨rfl, rfl⟩)
      have u1 : IntKind.i64.wrap (5 * (k : Int) + 2) = 5 * (k : Int) + 2 := IntWalk.i64_in _ (by omega)
      have u2 : (5 * (k : Int) + 2).toNat = 5 * k + 2 := by omega
      have u3 : 0 ≤ 5 * (k : Int) + 2 := by omega
      have u4 : 5 * (k : Int) + 2 ≤ 19 := by omega
      have v1 : IntKind.i64.wrap (2 * (k : Int) + 1) = 2 * (k : Int) + 1 := IntWalk.i64_in _ (by omega)
      have v2 : (2 * (k : Int) + 1).toNat = 2 * k + 1 := by omega
      have v3 : 0 ≤ 2 * (k : Int) + 1 := by omega
      have v4 : 2 * (k : Int) + 1 < 8 := by omega
      have v5 : 2 * k + 1 < 8 := by omega
      have u5 : 5 * k + 2 ≤ 19 := by omega
      go_region_with ((go_at_call 20; refine (xtoi2_two (z.toNat / 16) (z.toNat % 16) rest 46 l3 l4 HR.out hrl _).mono ?_; rintro e w' ⟨rfl, rfl⟩))
      all_goals
        clear u1 u2 u3 u4 u5 v1 v2 v3 v4 v5
        go_wp2
        go_roundw
        case rel =>
          rw [byte_two z]
          exact ⟨k + 1, by omega, by go_num, by go_num, S2, ((hb.setCell (p := ⟨w.heap.size, 2 * k, none⟩) (Nat.le_refl _) _).setCell (p := ⟨w.heap.size, 2 * k + 1, none⟩) (Nat.le_refl _) _).drew⟩
        case measure => simp [intOf]; omega
    · have e1 : fillTo hw (2 * k) = hw := fillTo_all _ _ (by rw [HN.out]; omega)
      rw [e1] at ho
      clear e1
      go_wp2
      go_ret2
      exact ⟨rfl, ho, hb⟩

set_option maxRecDepth 100000 in
set_option maxHeartbeats 4000000 in
theorem parseMAC_dots_20 (hw s : List UInt8) (hn : hw.length = 20) (hs : s = tx 46 2 hw) (w : World) :
    Calls Try.prog 16 #[.string ⟨s.toArray⟩] w fun e w' => MacBack 20 w hw e w' := by
  have HN := Lib.hid hn
  have hlen : s.length = 49 := by rw [hs, tx2_length 46 10 hw hn]
  have HD := Lib.hid (show DotsAt s hw from fun g h => by rw [hs]; exact tx2_drop 46 hw 10 g hn h)
  obtain ⟨⟨a, ha, g2⟩, g4⟩ := tx2_get hw (by omega)
  rw [← hs] at g2 g4
  have i2 : ({ data := s.toArray } : ByteArray)[2]'(by show 2 < s.length; omega) = dg a := by
    obtain ⟨_, h'⟩ := List.getElem?_eq_some_iff.mp g2
    exact h'
  have i4 : ({ data := s.toArray } : ByteArray)[4]'(by show 4 < s.length; omega) = 46 := by
    obtain ⟨_, h'⟩ := List.getElem?_eq_some_iff.mp g4
    exact h'
  obtain ⟨n1, n2, n3⟩ := dg_ne a ha
  clear hs hn g2 g4
  have HL := Lib.hid hlen
  go_enter Try.func16, Try.ntmps16
  go_wp2
  go_step3
  go_wp2_with (refine wpList_mk8 rfl (.tmp 92) (.tmp 92) 34 rfl 5 Try.underlying34 info8 .i64 .i64 _ _ 20 rfl rfl rfl rfl (by decide) ?_)
  intro w1 hown hg
  have hb1 : Below w.heap.size w w1 := (Below.refl _ _).grown hg (Nat.le_refl _) (by simp)
  have ho1 : w1.ownsRow w.heap.size 5 1 (.slice (some ⟨w.heap.size, 0, none⟩) 20 20) (fillTo hw 0).length (cb (fillTo hw 0)) := by rw [fillTo_zero, HN.out]; exact hown
  clear hown hg
  go_wp2
  go_loopw [9, 10] (fun x i wr => ∃ k : Nat, k ≤ 10 ∧ x = .int .i64 (5 * (k : Int)) ∧ i = .int .i64 (2 * (k : Int)) ∧ wr.ownsRow w.heap.size 5 1 (.slice (some ⟨w.heap.size, 0, none⟩) 20 20) (fillTo hw (2 * k)).length (cb (fillTo hw (2 * k))) ∧ Below w.heap.size w wr) (fun _ i _ => 20 - (intOf i).toNat)
  case atStart => exact ⟨0, by decide, rfl, rfl, ho1, hb1⟩
  case round =>
    obtain ⟨k, hk, rfl, rfl, ho, hb⟩ := hrel
    by_cases hlt : k < 10
    · have hkl : 2 * k + 1 < hw.length := by rw [HN.out]; omega
      obtain ⟨rest, hd, hr⟩ := HD.out k hkl
      have hcut := cut2 hd
      have hd2 : s.drop (5 * k + 2) = dg (hw[2 * k + 1].toNat / 16) :: dg (hw[2 * k + 1].toNat % 16) :: rest := by
        rw [← List.drop_drop, hd]; rfl
      have hcut2 := cutS (l := [_, _]) HL.out hd2
      have hlen2 : (fillTo hw (2 * k)).length = 20 := by rw [fillTo_length _ _ (by omega), HN.out]
      have hlen3 : (fillTo hw (2 * k + 1)).length = 20 := by rw [fillTo_length _ _ (by omega), HN.out]
      have S1 := own_store ho (j := 2 * k) hw[2 * k] hlen2
      rw [fillTo_step hw (2 * k) (by omega)] at S1
      have c0 := own_cell ho (j := 2 * k) (by omega) hlen2
      have f0 := own_frozen ho (2 * k) hlen2
      have c1 := own_cell S1 (j := 2 * k + 1) (by omega) hlen3
      have f1 := own_frozen S1 (2 * k + 1) hlen3
      have S2 := own_store S1 (j := 2 * k + 1) hw[2 * k + 1] hlen3
      rw [fillTo_step hw (2 * k + 1) (by omega)] at S2
      generalize (fillTo hw (2 * k))[2 * k] = y0 at c0
      generalize (fillTo hw (2 * k + 1))[2 * k + 1] = y1 at c1
      have hrl : rest.length ≤ 140737488351232 := by have h1 := congrArg List.length hd; have h2 := HL.out; simp only [List.length_drop, List.length_cons] at h1; omega
      have HR := Lib.hid hr
      clear hlen2 hlen3 hd hd2 hr
      generalize hw[2 * k] = x at hcut S1 S2 c1 f1
      generalize hw[2 * k + 1] = z at hcut2 S2
      have hx : x.toNat < 256 := x.toNat_lt
      have hz : z.toNat < 256 := z.toNat_lt
      have l1 : x.toNat / 16 < 16 := by omega
      have l2 : x.toNat % 16 < 16 := by omega
      have l3 : z.toNat / 16 < 16 := by omega
      have l4 : z.toNat % 16 < 16 := by omega
      have bx := byte_two x
      go_wp2_with (go_at_call 20; refine (xtoi2_two (x.toNat / 16) (x.toNat % 16) [] 0 l1 l2 (.inl rfl) (by decide) _).mono ?_; rintro e w' ⟨rfl, rfl⟩)
      have u1 : IntKind.i64.wrap (5 * (k : Int) + 2) = 5 * (k : Int) + 2 := IntWalk.i64_in _ (by omega)
      have u2 : (5 * (k : Int) + 2).toNat = 5 * k + 2 := by omega
      have u3 : 0 ≤ 5 * (k : Int) + 2 := by omega
      have u4 : 5 * (k : Int) + 2 ≤ 49 := by omega
      have v1 : IntKind.i64.wrap (2 * (k : Int) + 1) = 2 * (k : Int) + 1 := IntWalk.i64_in _ (by omega)
      have v2 : (2 * (k : Int) + 1).toNat = 2 * k + 1 := by omega
      have v3 : 0 ≤ 2 * (k : Int) + 1 := by omega
      have v4 : 2 * (k : Int) + 1 < 20 := by omega
      have v5 : 2 * k + 1 < 20 := by omega
      have u5 : 5 * k + 2 ≤ 49 := by omega
      go_region_with ((go_at_call 20; refine (xtoi2_two (z.toNat / 16) (z.toNat % 16) rest 46 l3 l4 HR.out hrl _).mono ?_; rintro e w' ⟨rfl, rfl⟩))
      all_goals
        clear u1 u2 u3 u4 u5 v1 v2 v3 v4 v5
        go_wp2
        go_roundw
        case rel =>
          rw [byte_two z]
          exact ⟨k + 1, by omega, by go_num, by go_num, S2, ((hb.setCell (p := ⟨w.heap.size, 2 * k, none⟩) (Nat.le_refl _) _).setCell (p := ⟨w.heap.size, 2 * k + 1, none⟩) (Nat.le_refl _) _).drew⟩
        case measure => simp [intOf]; omega
    · have e1 : fillTo hw (2 * k) = hw := fillTo_all _ _ (by rw [HN.out]; omega)
      rw [e1] at ho
      clear e1
      go_wp2
      go_ret2
      exact ⟨rfl, ho, hb⟩

set_option maxRecDepth 100000 in
set_option maxHeartbeats 4000000 in
theorem parseMAC_hex_6 (hw s : List UInt8) (hn : hw.length = 6) (hs : s = hex hw) (w : World) :
    Calls Try.prog 16 #[.string ⟨s.toArray⟩] w fun e w' => MacBack 6 w hw e w' := by
  have HN := Lib.hid hn
  have hlen : s.length = 12 := by rw [hs, hex_length, hn]
  have HD := Lib.hid (show ∀ i (h : i < hw.length), ∃ rest, s.drop (2 * i) = dg (hw[i].toNat / 16) :: dg (hw[i].toNat % 16) :: rest from fun i h => by rw [hs]; exact hex_drop hw i h)
  obtain ⟨⟨a, ha, g2⟩, ⟨b, hb', g4⟩⟩ := hex_get hw (by omega)
  rw [← hs] at g2 g4
  have i2 : ({ data := s.toArray } : ByteArray)[2]'(by show 2 < s.length; omega) = dg a := by
    obtain ⟨_, h'⟩ := List.getElem?_eq_some_iff.mp g2
    exact h'
  have i4 : ({ data := s.toArray } : ByteArray)[4]'(by show 4 < s.length; omega) = dg b := by
    obtain ⟨_, h'⟩ := List.getElem?_eq_some_iff.mp g4
    exact h'
  obtain ⟨n1, n2, n3⟩ := dg_ne a ha
  obtain ⟨m1, m2, m3⟩ := dg_ne b hb'
  clear hs hn g2 g4 m1 m2 n3
  have HL := Lib.hid hlen
  go_enter Try.func16, Try.ntmps16
  go_wp2
  go_step3
  go_wp2_with (refine wpList_mk8 rfl (.tmp 150) (.tmp 150) 34 rfl 5 Try.underlying34 info8 .i64 .i64 _ _ 6 rfl rfl rfl rfl (by decide) ?_)
  intro w1 hown hg
  have hb1 : Below w.heap.size w w1 := (Below.refl _ _).grown hg (Nat.le_refl _) (by simp)
  have ho1 : w1.ownsRow w.heap.size 5 1 (.slice (some ⟨w.heap.size, 0, none⟩) 6 6) (fillTo hw 0).length (cb (fillTo hw 0)) := by rw [fillTo_zero, HN.out]; exact hown
  clear hown hg
  go_wp2
  go_loopw [13, 14] (fun x i wr => ∃ k : Nat, k ≤ 6 ∧ x = .int .i64 (2 * (k : Int)) ∧ i = .int .i64 k ∧ wr.ownsRow w.heap.size 5 1 (.slice (some ⟨w.heap.size, 0, none⟩) 6 6) (fillTo hw k).length (cb (fillTo hw k)) ∧ Below w.heap.size w wr) (fun _ i _ => 6 - (intOf i).toNat)
  case atStart => exact ⟨0, by decide, rfl, rfl, ho1, hb1⟩
  case round =>
    obtain ⟨k, hk, rfl, rfl, ho, hb⟩ := hrel
    by_cases hlt : k < 6
    · have hkl : k < hw.length := by rw [HN.out]; exact hlt
      obtain ⟨rest, hd⟩ := HD.out k hkl
      have hcut := cut2 hd
      have hlen2 : (fillTo hw k).length = 6 := by rw [fillTo_length _ _ (by omega), HN.out]
      have c0 := own_cell ho (j := k) (by omega) hlen2
      have f0 := own_frozen ho k hlen2
      generalize (fillTo hw k)[k] = y at c0
      have HS := Lib.hid (fillTo_step hw k hkl)
      have HL2 := Lib.hid hlen2
      clear hlen2 hd
      generalize hw[k] = x at hcut HS
      have hx : x.toNat < 256 := x.toNat_lt
      have l1 : x.toNat / 16 < 16 := by omega
      have l2 : x.toNat % 16 < 16 := by omega
      go_wp2_with (go_at_call 20; refine (xtoi2_two (x.toNat / 16) (x.toNat % 16) [] 0 l1 l2 (.inl rfl) (by decide) _).mono ?_; rintro e w' ⟨rfl, rfl⟩)
      go_roundw
      case rel =>
        have R := own_store ho (j := k) x HL2.out
        rw [HS.out] at R
        rw [byte_two x]
        exact ⟨k + 1, by omega, by go_num, by go_num, R, hb.setCell (p := ⟨w.heap.size, k, none⟩) (Nat.le_refl _) _⟩
      case measure => simp [intOf]; omega
    · have e1 : fillTo hw k = hw := fillTo_all _ _ (by rw [HN.out]; omega)
      rw [e1] at ho
      clear e1
      go_wp2
      go_ret2
      exact ⟨rfl, ho, hb⟩
end Go.Proofs.Ytemfbjkcemhkjaa
