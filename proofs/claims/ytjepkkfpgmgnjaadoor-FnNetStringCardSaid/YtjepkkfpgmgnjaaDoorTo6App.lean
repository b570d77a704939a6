/-
  Contract of (netip.Addr).appendTo6: the text of an IPv6 address behind the buffer. No condition.
-/
import Derived.Test.YtjepkkfpgmgnjaaDoorTo4App
import Derived.Test.YtjepkkfpgmgnjaaDoorLongP
namespace Go.Proofs.YtjepkkfpgmgnjaaDoor
open Go.RowKit
set_option linter.unusedVariables false

/-- a group of an address by its halves -/
def wd (hi lo i : Nat) : Nat := (if i < 4 then hi else lo) / 65536 ^ (3 - i % 4) % 65536
theorem wd_lt (hi lo i : Nat) : wd hi lo i < 65536 := Nat.mod_lt _ (by decide)
theorem v6w_any (hi lo : Nat) (z : Option Addr) (i : Nat) (w : World) (hi8 : i < 8) (hh : hi < 18446744073709551616) (hl : lo < 18446744073709551616) :
    Calls Tryd.prog 87 #[addrV hi lo z, .int .u8 (i : Int)] w fun e w' => e = .returned (.int .u16 (wd hi lo i : Int)) ∧ Below w.heap.size w w' :=
  v6u16_any hi lo z i w hi8 hh hl
theorem bst_succ_yes {g : Nat → Nat} {k s e j : Nat} (h : bst g k = (s, e)) (hr : run g k = j - k) (hkj : k ≤ j) (h2 : 2 ≤ j - k) (h3 : e - s < j - k) : bst g (k + 1) = (k, j) := by
  simp only [bst, h, hr]
  rw [if_pos ⟨h2, h3⟩, show k + (j - k) = j by omega]
theorem bst_succ_no {g : Nat → Nat} {k s e j : Nat} (h : bst g k = (s, e)) (hr : run g k = j - k) (hn : ¬ (2 ≤ j - k ∧ e - s < j - k)) : bst g (k + 1) = (s, e) := by
  simp only [bst, h, hr]
  rw [if_neg hn]

theorem part6_next {g : Nat → Nat} {s e k : Nat} (hse : s ≤ e) (hne : k ≠ s) (h : k ≤ s ∨ e < k) : part6 g s e (k + 1) = part6 g s e k ++ ((if k = 0 then [] else [58]) ++ hx (g k)) := by
  unfold part6
  rcases h with h | h
  · rw [if_pos (by omega), if_pos h]
    simp [jn]
  · rw [if_neg (by omega), if_neg (by omega), show k + 1 - e = (k - e) + 1 by omega, if_neg (show ¬ k = 0 by omega)]
    simp only [jn]
    rw [if_neg (by omega), show e + (k - e) = k by omega]
    simp
theorem part6_gap {g : Nat → Nat} {s e : Nat} (hse : s < e) : part6 g s e (e + 1) = part6 g s e s ++ ([58, 58] ++ hx (g e)) := by
  unfold part6
  rw [if_neg (by omega), if_pos (Nat.le_refl _), show e + 1 - e = 0 + 1 by omega]
  simp [jn]

set_option maxRecDepth 100000 in
set_option maxHeartbeats 8000000 in
theorem appTo6_any (A : Option Addr) (nn c : Nat) (l : List UInt8) (hi lo : Nat) (p4 p6 : Addr) (w0 w : World) (hz : ZF w0 p4 p6) (hb0 : Below w0.heap.size w0 w) (hnn : l.length = nn) (ho : w.ownsRow w0.heap.size 5 1 (.slice A nn c) l.length (cb l)) (hl : nn ≤ 50000)
    (hh : hi < 18446744073709551616) (hlo : lo < 18446744073709551616) :
    Calls Tryd.prog 77 #[addrV hi lo (some p6), .slice A nn c] w fun e w' => AppTo w0.heap.size w (.slice A nn c) (l ++ long (wd hi lo)) e w' := by
  have hbase := hb0.size
  have HN := Lib.hid hnn
  have hvx := fun (i : Nat) (h : i < 8) (w : World) => v6w_any hi lo (some p6) i w h hh hlo
  have hg := wd_lt hi lo
  generalize wd hi lo = g at hvx hg ⊢
  have HG := Lib.hid hg
  clear hnn hg
  unfold addrV at hvx ⊢
  have HV := Lib.hid hvx
  clear hvx
  obtain ⟨wB, hwB⟩ : ∃ wB, w.alloc (.cells #[.int .u64 (hi : Int), .int .u64 (lo : Int), .pointer (some p6)] 60) = wB := ⟨_, rfl⟩
  have bB : Below w.heap.size w wB := by rw [← hwB]; exact (Below.refl _ _).alloc (Nat.le_refl _) _
  have sB : w.heap.size < wB.heap.size := by rw [← hwB]; simp
  have cB0 : wB.cell? ⟨w.heap.size, 0, none⟩ = some (.int .u64 (hi : Int)) := by rw [← hwB]; exact cell_of_row _ _ 0 _ _ _ (heap_alloc_new w _)
  have cB1 : wB.cell? ⟨w.heap.size, 1, none⟩ = some (.int .u64 (lo : Int)) := by rw [← hwB]; exact cell_of_row _ _ 1 _ _ _ (heap_alloc_new w _)
  have cB2 : wB.cell? ⟨w.heap.size, 2, none⟩ = some (.pointer (some p6)) := by rw [← hwB]; exact cell_of_row _ _ 2 _ _ _ (heap_alloc_new w _)
  have neB : some w.heap.size ≠ (Value.slice A nn c).ownBlock := own_ne ho (Nat.le_refl _)
  have hoB := own_kept ho bB
  have HWB := Lib.hid hwB
  clear hwB
  go_enter Tryd.func77, Tryd.ntmps77
  go_wp2
  rw [HWB.out]
  go_loopw [7, 5, 6] (fun i s e wr => ∃ k sv ev : Nat, k ≤ 8 ∧ i = .int .u8 k ∧ s = .int .u8 sv ∧ e = .int .u8 ev ∧ sv ≤ ev ∧ ev ≤ 255 ∧ Below wB.heap.size wB wr ∧ Hid (bst g k = (sv, ev))) (fun i _ _ _ => 8 - (intOf i).toNat)
  case atStart => exact ⟨0, 255, 255, by decide, rfl, rfl, rfl, by decide, by decide, Below.refl _ _, rfl⟩
  case round =>
    obtain ⟨k, sv, ev, hk, rfl, rfl, rfl, hse, hev, hb, HB⟩ := hrel
    by_cases hk8 : k < 8
    · obtain ⟨wo, rfl⟩ : ∃ wo : World, wo = wr := ⟨_, rfl⟩
      have t8 : decide ((k : Int) < 8) = true := by simp; omega
      go_wp2
      go_loopw [8] (fun j wr => ∃ t : Nat, k ≤ t ∧ t ≤ 8 ∧ j = .int .u8 t ∧ Below wB.heap.size wB wr ∧ Hid (∀ q, k ≤ q → q < t → g q = 0)) (fun j _ => 8 - (intOf j).toNat)
      case atStart => exact ⟨k, Nat.le_refl _, by omega, rfl, hb, fun q h1 h2 => absurd h2 (by omega)⟩
      case round =>
        obtain ⟨t, hkt, ht8, rfl, hb2, HQ⟩ := hrel
        have c0 := (hb2.cell (p := ⟨w.heap.size, 0, none⟩) sB).trans cB0
        have c1 := (hb2.cell (p := ⟨w.heap.size, 1, none⟩) sB).trans cB1
        have c2 := (hb2.cell (p := ⟨w.heap.size, 2, none⟩) sB).trans cB2
        by_cases hz0 : t < 8 ∧ g t = 0
        · obtain ⟨ht, hgt⟩ := hz0
          have HGT := Lib.hid hgt
          clear hgt
          go_wp2_with fail
          refine (HV.out t ht _).mono ?_
          rintro e w1 ⟨rfl, hb3⟩
          rw [HGT.out]
          go_wp2
          go_roundw
          case rel =>
            refine ⟨t + 1, by omega, by omega, by go_num, hb2.trans (hb3.mono hb2.size), fun q h1 h2 => ?_⟩
            rcases Nat.lt_or_ge q t with h | h
            · exact HQ.out q h1 h
            · obtain rfl : q = t := by omega
              exact HGT.out
          case measure => simp [intOf]; omega
        · have HZ := Lib.hid (show t = 8 ∨ g t ≠ 0 by
            rcases Nat.lt_or_ge t 8 with h | h
            · exact .inr fun e => hz0 ⟨h, e⟩
            · exact .inl (by omega))
          have HRUN := Lib.hid (run_eq hkt ht8 HQ.out HZ.out)
          clear hz0
          by_cases hcnd : 2 ≤ t - k ∧ ev - sv < t - k
          · have HNX := Lib.hid (bst_succ_yes HB.out HRUN.out hkt hcnd.1 hcnd.2)
            have q1 : decide ((2 : Int) ≤ (t : Int) - (k : Int)) = true := by simp; omega
            have q2 : decide ((ev : Int) - (sv : Int) < (t : Int) - (k : Int)) = true := by simp; omega
            clear hcnd
            by_cases ht : t < 8
            · have gt := HG.out t
              have HGT := Lib.hid (show ((g t : Int) == 0) = false by
                rcases HZ.out with h | h
                · omega
                · simp; omega)
              go_wp2_with fail
              refine (HV.out t ht _).mono ?_
              rintro e w1 ⟨rfl, hb3⟩
              have hgt := HGT.out
              go_wp2
              go_roundw
              case rel => exact ⟨k + 1, k, t, by omega, by go_num, rfl, rfl, hkt, by omega, hb2.trans (hb3.mono hb2.size), HNX.out⟩
              case measure => simp [intOf]; omega
            · have tt : decide ((t : Int) < 8) = false := by simp; omega
              go_wp2
              go_roundw
              case rel => exact ⟨k + 1, k, t, by omega, by go_num, rfl, rfl, hkt, by omega, hb2, HNX.out⟩
              case measure => simp [intOf]; omega
          · have HNX := Lib.hid (bst_succ_no HB.out HRUN.out hcnd)
            have HC := Lib.hid hcnd
            clear hcnd
            by_cases h2 : 2 ≤ t - k
            · have q1 : decide ((2 : Int) ≤ (t : Int) - (k : Int)) = true := by simp; omega
              have q2 : decide ((ev : Int) - (sv : Int) < (t : Int) - (k : Int)) = false := by have := HC.out; simp; omega
              clear h2
              by_cases ht : t < 8
              · have gt := HG.out t
                have HGT := Lib.hid (show ((g t : Int) == 0) = false by
                  rcases HZ.out with h | h
                  · omega
                  · simp; omega)
                go_wp2_with fail
                refine (HV.out t ht _).mono ?_
                rintro e w1 ⟨rfl, hb3⟩
                have hgt := HGT.out
                go_wp2
                go_roundw
                case rel => exact ⟨k + 1, sv, ev, by omega, by go_num, rfl, rfl, hse, hev, hb2.trans (hb3.mono hb2.size), HNX.out⟩
                case measure => simp [intOf]; omega
              · have tt : decide ((t : Int) < 8) = false := by simp; omega
                go_wp2
                go_roundw
                case rel => exact ⟨k + 1, sv, ev, by omega, by go_num, rfl, rfl, hse, hev, hb2, HNX.out⟩
                case measure => simp [intOf]; omega
            · have q1 : decide ((2 : Int) ≤ (t : Int) - (k : Int)) = false := by simp; omega
              clear h2
              by_cases ht : t < 8
              · have gt := HG.out t
                have HGT := Lib.hid (show ((g t : Int) == 0) = false by
                  rcases HZ.out with h | h
                  · omega
                  · simp; omega)
                go_wp2_with fail
                refine (HV.out t ht _).mono ?_
                rintro e w1 ⟨rfl, hb3⟩
                have hgt := HGT.out
                go_wp2
                go_roundw
                case rel => exact ⟨k + 1, sv, ev, by omega, by go_num, rfl, rfl, hse, hev, hb2.trans (hb3.mono hb2.size), HNX.out⟩
                case measure => simp [intOf]; omega
              · have tt : decide ((t : Int) < 8) = false := by simp; omega
                go_wp2
                go_roundw
                case rel => exact ⟨k + 1, sv, ev, by omega, by go_num, rfl, rfl, hse, hev, hb2, HNX.out⟩
                case measure => simp [intOf]; omega
    · obtain rfl : k = 8 := by omega
      have hfm := bst_form g 8 (Nat.le_refl _)
      have HL := Lib.hid (show long g = if sv = 255 then jn g 0 8 else jn g 0 sv ++ 58 :: 58 :: jn g ev (8 - ev) by unfold long; rw [HB.out])
      rw [HB.out] at hfm
      have HF := Lib.hid (show (sv = 255 ∧ ev = 255) ∨ (sv + 2 ≤ ev ∧ ev ≤ 8) by
        rcases hfm with h | h
        · exact .inl h
        · exact .inr ⟨h.1, h.2.1⟩)
      clear hfm HB
      have hoL := own_kept hoB hb
      have M0 : Moved wB wr (.slice A nn c) (.slice A nn c) := Moved.of_below _ hb
      have finish : True := trivial
      go_wp2
      go_loopw [10, 1] (fun i r wr => ∃ (k : Nat) (A' : Option Addr) (n' c' : Nat) (lk : List UInt8), k ≤ 8 ∧ i = .int .u8 k ∧ r = .slice A' n' c' ∧ n' ≤ nn + 100 ∧ wr.ownsRow w0.heap.size 5 1 (.slice A' n' c') lk.length (cb lk) ∧ Moved wB wr (.slice A nn c) (.slice A' n' c') ∧ Hid (lk.length = n' ∧ (k ≤ sv ∨ ev < k) ∧ lk = l ++ part6 g sv ev k)) (fun i _ _ => 8 - (intOf i).toNat)
      case atStart => exact ⟨0, A, nn, c, l, by decide, rfl, rfl, by omega, hoL, M0, HN.out, .inl (Nat.zero_le _), by simp [part6, jn]⟩
      case round =>
        obtain ⟨k, A', n', c', lk, hk, rfl, rfl, hn', hoK, MK, HK⟩ := hrel
        have sK := MK.1.size
        have c0 := MK.cell cB0 neB
        have c1 := MK.cell cB1 neB
        have c2 := MK.cell cB2 neB
        have es := eqSame
        have hzK : ZF wr p4 p6 := hz.below (((Moved.of_below (.slice A nn c) bB).trans MK).below hb0 ho)
        have h6 := hzK.1.2.2
        by_cases hk8 : k < 8
        · have t8 : decide ((k : Int) < 8) = true := by simp; omega
          by_cases hks : k = sv
          · subst hks
            obtain ⟨hs2, he8⟩ : k + 2 ≤ ev ∧ ev ≤ 8 := by
              rcases HF.out with h | h
              · omega
              · exact h
            have HKL := Lib.hid HK.out.1
            go_wp2_with (at_builtin; refine wpList_app8 rfl (.tmp 47) (.tmp 48) 22 rfl w0.heap.size 5 Tryd.underlying22 info8 A' n' c' lk [58, 58] HKL.out rfl _ _ hoK 2 2 (n' + 2) rfl rfl rfl rfl ?g1 ?g2 ?_)
            case g1 => omega
            case g2 => omega
            intro A2 c2' w2 ho2 hm2
            have M2 := MK.trans hm2
            have s2 := M2.1.size
            have d0 := M2.cell cB0 neB
            have d1 := M2.cell cB1 neB
            have d2 := M2.cell cB2 neB
            have el : lk.length + 2 = (lk ++ [58, 58]).length := by simp
            rw [el] at ho2
            clear el
            have HN2 := Lib.hid (show (lk ++ [58, 58]).length = n' + 2 by rw [List.length_append, HKL.out]; rfl)
            generalize hl2 : lk ++ [58, 58] = l2 at ho2 HN2
            have HL2 := Lib.hid hl2
            clear hl2
            by_cases h8 : ev < 8
            · have t9 : decide ((8 : Int) ≤ (ev : Int)) = false := by simp; omega
              have gt := HG.out ev
              go_wp2_with fail
              refine (HV.out ev h8 _).mono ?_
              rintro e w3 ⟨rfl, hb3⟩
              have M3 := M2.trans (Moved.of_below _ hb3)
              have ho3 := own_kept ho2 hb3
              have s3 := M3.1.size
              go_wp2_with fail
              refine (appHex_any A2 (n' + 2) c2' (g ev) w0.heap.size l2 _ gt HN2.out (by exact ho3) (by omega) (by omega)).mono ?_
              rintro e w4 ⟨A4, n4, c4, rfl, hn4, ho4, hm4⟩
              have HN4 := Lib.hid hn4
              clear hn4
              have M4 := M3.trans hm4
              have HE4 := Lib.hid (show l2 ++ hx (g ev) = l ++ part6 g k ev (ev + 1) by rw [← HL2.out, HK.out.2.2, part6_gap (by omega)]; simp)
              have hp := part6_len g k ev (ev + 1) (by omega)
              have hn4 : n4 ≤ nn + 100 := by rw [← HN4.out, HE4.out, List.length_append, HN.out]; omega
              go_wp2
              go_roundw
              case rel =>
                rw [HE4.out] at ho4
                first | exact ⟨ev + 1, A4, n4, c4, l ++ part6 g k ev (ev + 1), by omega, by go_num, rfl, hn4, ho4, M4, by rw [← HE4.out]; exact HN4.out, .inr (by omega), rfl⟩ | ((repeat apply Exists.intro); exact ⟨⟨ev + 1, A4, n4, c4, l ++ part6 g k ev (ev + 1), by omega, by go_num, rfl, hn4, ho4, M4, by rw [← HE4.out]; exact HN4.out, .inr (by omega), rfl⟩, rfl⟩)
              case measure => simp [intOf]; omega
            · have t9 : decide ((8 : Int) ≤ (ev : Int)) = true := by simp; omega
              have HE := Lib.hid (show l ++ long g = l2 by
                rw [← HL2.out, HK.out.2.2, HL.out, if_neg (by omega), show 8 - ev = 0 by omega]
                unfold part6
                rw [if_pos (Nat.le_refl _)]
                simp [jn])
              have hzK2 : ZF w2 p4 p6 := hz.below (((Moved.of_below (.slice A nn c) bB).trans M2).below hb0 ho)
              have h62 := hzK2.1.2.2
              clear h6 c0 c1 c2
              go_wp2
              go_ret
              rw [HE.out]
              exact ⟨A2, n' + 2, c2', rfl, HN2.out, ho2, (Moved.of_below _ bB).trans M2⟩
          · have tks : ((k : Int) == (sv : Int)) = false := by simp; omega
            have HNX := Lib.hid (part6_next (g := g) hse hks HK.out.2.1)
            have HOR := Lib.hid (show k + 1 ≤ sv ∨ ev < k + 1 by rcases HK.out.2.1 with h | h <;> omega)
            have HKL := Lib.hid HK.out.1
            have gt := HG.out k
            have hp := part6_len g sv ev (k + 1) (by omega)
            clear hks
            rcases k with _ | k
            · go_wp2_with fail
              refine (HV.out 0 hk8 _).mono ?_
              rintro e w3 ⟨rfl, hb3⟩
              have M3 := MK.trans (Moved.of_below _ hb3)
              have ho3 := own_kept hoK hb3
              have s3 := M3.1.size
              go_wp2_with fail
              refine (appHex_any A' n' c' (g 0) w0.heap.size lk _ gt HKL.out (by exact ho3) (by omega) (by omega)).mono ?_
              rintro e w4 ⟨A4, n4, c4, rfl, hn4, ho4, hm4⟩
              have HN4 := Lib.hid hn4
              clear hn4
              have M4 := M3.trans hm4
              have HE4 := Lib.hid (show lk ++ hx (g 0) = l ++ part6 g sv ev (0 + 1) by rw [HK.out.2.2, HNX.out]; simp)
              have hn4 : n4 ≤ nn + 100 := by rw [← HN4.out, HE4.out, List.length_append, HN.out]; omega
              go_wp2
              go_roundw
              case rel =>
                rw [HE4.out] at ho4
                first | exact ⟨1, A4, n4, c4, l ++ part6 g sv ev 1, by omega, rfl, rfl, hn4, ho4, M4, by have := HN4.out; rw [HE4.out] at this; exact this, HOR.out, rfl⟩ | ((repeat apply Exists.intro); exact ⟨⟨1, A4, n4, c4, l ++ part6 g sv ev 1, by omega, rfl, rfl, hn4, ho4, M4, by have := HN4.out; rw [HE4.out] at this; exact this, HOR.out, rfl⟩, rfl⟩)
              case measure => simp [intOf]
            · go_wp2_with (at_builtin; refine wpList_app8 rfl (.tmp 55) (.tmp 56) 22 rfl w0.heap.size 5 Tryd.underlying22 info8 A' n' c' lk [58] HKL.out rfl _ _ hoK 1 1 (n' + 1) rfl rfl rfl rfl ?g1 ?g2 ?_)
              case g1 => omega
              case g2 => omega
              intro A2 c2' w2 ho2 hm2
              have M2 := MK.trans hm2
              have s2 := M2.1.size
              have d0 := M2.cell cB0 neB
              have d1 := M2.cell cB1 neB
              have d2 := M2.cell cB2 neB
              have el : lk.length + 1 = (lk ++ [58]).length := by simp
              rw [el] at ho2
              clear el
              have HN2 := Lib.hid (show (lk ++ [58]).length = n' + 1 by rw [List.length_append, HKL.out]; rfl)
              generalize hl2 : lk ++ [58] = l2 at ho2 HN2
              have HL2 := Lib.hid hl2
              clear hl2
              go_wp2_with fail
              refine (HV.out (k + 1) hk8 _).mono ?_
              rintro e w3 ⟨rfl, hb3⟩
              have M3 := M2.trans (Moved.of_below _ hb3)
              have ho3 := own_kept ho2 hb3
              have s3 := M3.1.size
              go_wp2_with fail
              refine (appHex_any A2 (n' + 1) c2' (g (k + 1)) w0.heap.size l2 _ gt HN2.out (by exact ho3) (by omega) (by omega)).mono ?_
              rintro e w4 ⟨A4, n4, c4, rfl, hn4, ho4, hm4⟩
              have HN4 := Lib.hid hn4
              clear hn4
              have M4 := M3.trans hm4
              have HE4 := Lib.hid (show l2 ++ hx (g (k + 1)) = l ++ part6 g sv ev (k + 1 + 1) by rw [← HL2.out, HK.out.2.2, HNX.out]; simp)
              have hn4 : n4 ≤ nn + 100 := by rw [← HN4.out, HE4.out, List.length_append, HN.out]; omega
              go_wp2
              go_roundw
              case rel =>
                rw [HE4.out] at ho4
                first | exact ⟨k + 1 + 1, A4, n4, c4, l ++ part6 g sv ev (k + 1 + 1), by omega, by go_num, rfl, hn4, ho4, M4, by rw [← HE4.out]; exact HN4.out, HOR.out, rfl⟩ | ((repeat apply Exists.intro); exact ⟨⟨k + 1 + 1, A4, n4, c4, l ++ part6 g sv ev (k + 1 + 1), by omega, by go_num, rfl, hn4, ho4, M4, by rw [← HE4.out]; exact HN4.out, HOR.out, rfl⟩, rfl⟩)
              case measure => simp [intOf]; omega
        · obtain rfl : k = 8 := by omega
          have HE := Lib.hid (show l ++ long g = lk by
            obtain ⟨_, h2, h3⟩ := HK.out
            rw [h3, HL.out]
            congr 1
            unfold part6
            rcases HF.out with h | h
            · rw [if_pos h.1, if_pos (by omega)]
            · rw [if_neg (by omega), if_neg (by omega)])
          go_wp2
          go_ret
          rw [HE.out]
          exact ⟨A', n', c', rfl, HK.out.1, hoK, (Moved.of_below _ bB).trans MK⟩
end Go.Proofs.YtjepkkfpgmgnjaaDoor
