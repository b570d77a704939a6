/-
  The walk of the law FnColons. No condition.
-/
import Derived.Test.YtkmjejgeeghjmaaDoorColP
import Derived.OpenShut
import Derived.Test.YtkmjejgeeghjmaaDoorBytes
namespace Go.Proofs.YtkmjejgeeghjmaaDoor
open Go.RowKit
set_option linter.unusedVariables false

theorem Rd.cut0s {w : World} {g : Nat} {xs : List UInt8} (h : Rd w (some ⟨g, 0, none⟩) xs) (k m : Nat) : Rd w (some ⟨g, k, none⟩) ((xs.drop k).take m) := by
  have := h.cut k m
  rwa [Nat.zero_add] at this
theorem own_drewN {w : World} {base : Nat} {e : TypeId} {v : Value} {n : Nat} {xs : List Value} (h : w.ownsRow base e 1 v n xs) (k : Nat) : (w.drewN k).ownsRow base e 1 v n xs := h

set_option maxRecDepth 100000 in
set_option maxHeartbeats 8000000 in
theorem colons_main (A : Option Addr) (c : Nat) (xs : List UInt8) (f mn : Nat) (w : World) (hn : xs.length = 16) (hc : 16 ≤ c) (ha : Rd w A xs) (p4 p6 : Addr) (hz : ZF w p4 p6) (hm : 1 ≤ mn) (hf : f + mn ≤ 8) :
    Calls Tryd.prog 5 #[.slice A 16 c, .int .i64 (f : Int), .int .i64 (mn : Int)] w fun e w' => e = .returned (.bool true) ∧ Below w.heap.size w w' := by
  have HN := Lib.hid hn
  have i1 : (0 : Int) ≤ (f : Int) := by omega
  have i2 : (1 : Int) ≤ (mn : Int) := by omega
  have i3 : (f : Int) ≤ 7 := by omega
  have i4 : (mn : Int) ≤ 8 - (f : Int) := by omega
  clear hn
  go_enter Tryd.func5, Tryd.ntmps5
  go_wp2_with fail
  refine (bytes_any _ _ _ xs _ HN.out (by exact ha) (by decide)).mono ?_
  rintro e w1 ⟨A1, n1, c1, rfl, hn1, hown1, hb1⟩
  obtain rfl : n1 = 16 := by rw [← hn1]; exact HN.out
  clear hn1
  obtain ⟨g, cap, hv, hcap, hglt⟩ := hown1.form (by rw [HN.out]; decide)
  have hcc := own_cap hown1
  injection hv with hv1 hv2 hv3
  subst hv1 hv3
  clear hv2
  have hgb : w.heap.size ≤ g := (hown1.lt g rfl).1
  go_wp2
  go_loopw [8, 7] (fun i s wr => ∃ (k : Nat) (l ys : List UInt8), k ≤ 8 ∧ i = .int .i64 (k : Int) ∧ s = .string ⟨l.toArray⟩ ∧ l.length ≤ 100 ∧ Hid (l = colS (txh xs) f mn k) ∧ Hid (ys = zg xs f mn k) ∧ wr.ownsRow w.heap.size 5 1 (.slice (some ⟨g, 0, none⟩) 16 c1) ys.length (cb ys) ∧ Below w.heap.size w wr) (fun i _ _ => 8 - (intOf i).toNat)
  case atStart => exact ⟨0, [], xs, by omega, rfl, rfl, by simp, (by show [] = _; unfold colS; rw [if_pos (by omega)]; rfl), rfl, hown1, hb1⟩
  case round =>
    obtain ⟨k, l, ys, hk, rfl, rfl, hl, HL, HY, hown, hb⟩ := hrel
    have hyl : ys.length = 16 := by rw [HY.out, zg_len]; exact HN.out
    have HYL := Lib.hid hyl
    by_cases hlt : k < 8
    · by_cases hin : f ≤ k ∧ k < f + mn
      · obtain ⟨j1, j2⟩ := hin
        have hs1 := own_store (j := 2 * k) hown 0 hyl
        have hyl2 : (ys.set (2 * k) 0).length = 16 := by simpa using hyl
        have hs2 := own_store (j := 2 * k + 1) hs1 0 hyl2
        have HS2 := Lib.hid (show ((wr.setCell ⟨g, 2 * k, none⟩ (.int .u8 0)).setCell ⟨g, 2 * k + 1, none⟩ (.int .u8 0)).ownsRow w.heap.size 5 1 (.slice (some ⟨g, 0, none⟩) 16 c1) ((ys.set (2 * k) 0).set (2 * k + 1) 0).length (cb ((ys.set (2 * k) 0).set (2 * k + 1) 0)) from hs2)
        have HY2 := Lib.hid (show (ys.set (2 * k) 0).set (2 * k + 1) 0 = zg xs f mn (k + 1) by rw [zg_in j1 j2, HY.out])
        obtain ⟨z1, hc1⟩ : ∃ z, wr.cell? ⟨g, 2 * k, none⟩ = some z := ⟨_, own_cell (j := 2 * k) hown (by omega) hyl⟩
        obtain ⟨z2, hc2⟩ : ∃ z, wr.cell? ⟨g, 2 * k + 1, none⟩ = some z := ⟨_, own_cell (j := 2 * k + 1) hown (by omega) hyl⟩
        have hf1 := own_frozen hown (2 * k) hyl
        have hf2 := own_frozen hown (2 * k + 1) hyl
        have j1' : (f : Int) ≤ (k : Int) := by omega
        have j2' : (k : Int) < (f : Int) + (mn : Int) := by omega
        have hbn : Below w.heap.size w ((wr.setCell ⟨g, 2 * k, none⟩ (.int .u8 0)).setCell ⟨g, 2 * k + 1, none⟩ (.int .u8 0)) := (hb.setCell (p := ⟨g, 2 * k, none⟩) hgb _).setCell (p := ⟨g, 2 * k + 1, none⟩) hgb _
        clear hs1 hs2 hyl hyl2
        by_cases hkf : k = f
        · have e1 : ((k : Int) == (f : Int)) = true := by simp [hkf]
          have HE := Lib.hid (show l ++ [58, 58] = colS (txh xs) f mn (k + 1) by rw [HL.out, hkf, colS_gap _ _ _ hm])
          have HEL := Lib.hid (colS_len xs f mn (k + 1) (by omega) (by omega))
          clear hkf
          go_wp2
          go_roundw
          case rel => exact ⟨k + 1, l ++ [58, 58], _, by omega, by go_num, by rw [← ba_app], by rw [HE.out]; exact HEL.out, HE.out, HY2.out, HS2.out, hbn⟩
          case measure => simp [intOf]; omega
        · have e1 : ((k : Int) == (f : Int)) = false := beq_eq_false_iff_ne.mpr (by omega)
          have HE := Lib.hid (show l = colS (txh xs) f mn (k + 1) by rw [HL.out, colS_stay _ _ _ _ (by omega) j2])
          clear hkf
          go_wp2
          go_roundw
          case rel => exact ⟨k + 1, l, _, by omega, by go_num, rfl, hl, HE.out, HY2.out, HS2.out, hbn⟩
          case measure => simp [intOf]; omega
      · have hio : k < f ∨ f + mn ≤ k := by omega
        have HNX := Lib.hid (colS_next (txh_last xs) (f := f) (m := mn) (k := k) hm hio)
        rw [← HL.out] at HNX
        have HY2 := Lib.hid (show ys = zg xs f mn (k + 1) by rw [zg_out hio, HY.out])
        have HT := Lib.hid (show hex ((ys.drop (2 * k)).take 2) = txh xs k by rw [HY.out]; exact zg_txh xs HN.out f mn k hlt)
        have H2 := Lib.hid (show ((ys.drop (2 * k)).take 2).length = 2 by simp [hyl]; omega)
        have HEL := Lib.hid (colS_len xs f mn (k + 1) (by omega) (by omega))
        have ht4 := txh_len xs k
        generalize txh xs k = T at HNX HT ht4
        have ht5 : T.length ≤ 4 := by omega
        have hrd := Rd.of_own hown
        have w0 := want_cases' l
        clear hin ht4 hyl
        have hc16 : (16 : Int) ≤ (c1 : Int) := by omega
        by_cases hkf : k < f
        · have j3 : ¬ (f : Int) ≤ (k : Int) := by omega
          have j5 : (k : Int) < (f : Int) := by omega
          clear hkf hio
          rcases w0 with ⟨rfl, hw⟩ | ⟨hlt', hne, hne2, hne3, hw⟩
          · have HE := Lib.hid (show ([] : List UInt8) ++ T = colS (txh xs) f mn (k + 1) by rw [HNX.out, hw]; rfl)
            go_wp2_with fail
            refine (specHex_any _ _ _ ((ys.drop (2 * k)).take 2) _ H2.out (by exact Rd.cut0s hrd (2 * k) 2) (by decide)).mono ?_
            rintro e w2 ⟨rfl, k2, rfl⟩
            rw [HT.out]
            go_wp2
            go_roundw
            case rel => exact ⟨k + 1, ([] : List UInt8) ++ T, ys, by omega, by go_num, by rw [← ba_app], by rw [HE.out]; exact HEL.out, HE.out, HY2.out, own_drewN hown _, below_drewN hb _⟩
            case measure => simp [intOf]; omega
          · rcases hwc : wantC l with _ | _
            · rw [hwc] at hw
              have HE := Lib.hid (show l ++ T = colS (txh xs) f mn (k + 1) by rw [HNX.out, hwc]; rfl)
              clear hwc
              go_wp2_with fail
              refine (specHex_any _ _ _ ((ys.drop (2 * k)).take 2) _ H2.out (by exact Rd.cut0s hrd (2 * k) 2) (by decide)).mono ?_
              rintro e w2 ⟨rfl, k2, rfl⟩
              rw [HT.out]
              go_wp2
              go_roundw
              case rel => exact ⟨k + 1, l ++ T, ys, by omega, by go_num, by rw [← ba_app], by rw [HE.out]; exact HEL.out, HE.out, HY2.out, own_drewN hown _, below_drewN hb _⟩
              case measure => simp [intOf]; omega
            · rw [hwc] at hw
              have HE := Lib.hid (show (l ++ [58]) ++ T = colS (txh xs) f mn (k + 1) by rw [HNX.out, hwc]; simp)
              clear hwc
              go_wp2_with fail
              refine (specHex_any _ _ _ ((ys.drop (2 * k)).take 2) _ H2.out (by exact Rd.cut0s hrd (2 * k) 2) (by decide)).mono ?_
              rintro e w2 ⟨rfl, k2, rfl⟩
              rw [HT.out]
              go_wp2
              go_roundw
              case rel => exact ⟨k + 1, (l ++ [58]) ++ T, ys, by omega, by go_num, by rw [← ba_app, ← ba_app], by rw [HE.out]; exact HEL.out, HE.out, HY2.out, own_drewN hown _, below_drewN hb _⟩
              case measure => simp [intOf]; omega
        · have j3 : (f : Int) ≤ (k : Int) := by omega
          have j4 : (f : Int) + (mn : Int) ≤ (k : Int) := by omega
          clear hkf hio
          rcases w0 with ⟨rfl, hw⟩ | ⟨hlt', hne, hne2, hne3, hw⟩
          · have HE := Lib.hid (show ([] : List UInt8) ++ T = colS (txh xs) f mn (k + 1) by rw [HNX.out, hw]; rfl)
            go_wp2_with fail
            refine (specHex_any _ _ _ ((ys.drop (2 * k)).take 2) _ H2.out (by exact Rd.cut0s hrd (2 * k) 2) (by decide)).mono ?_
            rintro e w2 ⟨rfl, k2, rfl⟩
            rw [HT.out]
            go_wp2
            go_roundw
            case rel => exact ⟨k + 1, ([] : List UInt8) ++ T, ys, by omega, by go_num, by rw [← ba_app], by rw [HE.out]; exact HEL.out, HE.out, HY2.out, own_drewN hown _, below_drewN hb _⟩
            case measure => simp [intOf]; omega
          · rcases hwc : wantC l with _ | _
            · rw [hwc] at hw
              have HE := Lib.hid (show l ++ T = colS (txh xs) f mn (k + 1) by rw [HNX.out, hwc]; rfl)
              clear hwc
              go_wp2_with fail
              refine (specHex_any _ _ _ ((ys.drop (2 * k)).take 2) _ H2.out (by exact Rd.cut0s hrd (2 * k) 2) (by decide)).mono ?_
              rintro e w2 ⟨rfl, k2, rfl⟩
              rw [HT.out]
              go_wp2
              go_roundw
              case rel => exact ⟨k + 1, l ++ T, ys, by omega, by go_num, by rw [← ba_app], by rw [HE.out]; exact HEL.out, HE.out, HY2.out, own_drewN hown _, below_drewN hb _⟩
              case measure => simp [intOf]; omega
            · rw [hwc] at hw
              have HE := Lib.hid (show (l ++ [58]) ++ T = colS (txh xs) f mn (k + 1) by rw [HNX.out, hwc]; simp)
              clear hwc
              go_wp2_with fail
              refine (specHex_any _ _ _ ((ys.drop (2 * k)).take 2) _ H2.out (by exact Rd.cut0s hrd (2 * k) 2) (by decide)).mono ?_
              rintro e w2 ⟨rfl, k2, rfl⟩
              rw [HT.out]
              go_wp2
              go_roundw
              case rel => exact ⟨k + 1, (l ++ [58]) ++ T, ys, by omega, by go_num, by rw [← ba_app, ← ba_app], by rw [HE.out]; exact HEL.out, HE.out, HY2.out, own_drewN hown _, below_drewN hb _⟩
              case measure => simp [intOf]; omega
    · have hk8 : Hid (k = 8) := by show k = 8; omega
      have HRD := Lib.hid (show Reads l ys by rw [HL.out, HY.out, hk8.out]; exact reads_col xs HN.out f mn hm hf)
      have hrd := Rd.of_own hown
      clear hyl
      go_wp2_with fail
      refine (implParseIP_any HRD.out p4 p6 _ (hz.below hb)).mono ?_
      rintro e w2 ⟨A2, n2, c2, rfl, hn2, hown2, hb2'⟩
      have hb2 := hb.trans (hb2'.mono hb.size)
      have hn2' : n2 = 16 := by rw [← hn2]; exact HYL.out
      subst hn2'
      clear hn2
      go_wp2_with fail
      refine (same_any _ _ _ _ _ _ ys ys _ HYL.out HYL.out (by exact Rd.of_own hown2) (by exact hrd.below hb2') (by decide) true (eqb_true rfl)).mono ?_
      rintro e w3 ⟨rfl, k3, rfl⟩
      go_wp2
      go_ret
      exact ⟨rfl, below_drewN hb2 _⟩

set_option maxHeartbeats 1000000 in
theorem walk_FnColons (A : Option Addr) (n c : Nat) (xs : List UInt8) (i j : Int) (w : World) (hn : xs.length = n) (hc : n ≤ c) (hs : c ≤ 140737488351232) (ha : Rd w A xs) (wi : (Lit.int .i64 i).wf = true) (wj : (Lit.int .i64 j).wf = true) (hvars : ∃ p4 p6, ZF w p4 p6) :
    Calls Tryd.prog 5 #[.slice A n c, .int .i64 i, .int .i64 j] w fun e w' => e = .returned (.bool true) ∧ Below w.heap.size w w' := by
  obtain ⟨p4, p6, hz⟩ := hvars
  have bi := bounds_i64 wi
  have bj := bounds_i64 wj
  clear wi wj
  by_cases h16 : n = 16
  · subst h16
    by_cases a1 : i < 0
    · go_enter Tryd.func5, Tryd.ntmps5
      go_wp2
      go_ret
      exact ⟨rfl, Below.refl _ _⟩
    by_cases a2 : j < 1
    · go_enter Tryd.func5, Tryd.ntmps5
      go_wp2
      go_ret
      exact ⟨rfl, Below.refl _ _⟩
    by_cases a3 : 7 < i
    · go_enter Tryd.func5, Tryd.ntmps5
      go_wp2
      go_ret
      exact ⟨rfl, Below.refl _ _⟩
    by_cases a4 : 8 - i < j
    · go_enter Tryd.func5, Tryd.ntmps5
      go_wp2
      go_ret
      exact ⟨rfl, Below.refl _ _⟩
    obtain ⟨f, rfl⟩ : ∃ f : Nat, i = (f : Int) := ⟨i.toNat, by omega⟩
    obtain ⟨m, rfl⟩ : ∃ m : Nat, j = (m : Int) := ⟨j.toNat, by omega⟩
    exact colons_main A c xs f m w hn hc ha p4 p6 hz (by omega) (by omega)
  · have e16 : ((n : Int) != 16) = true := by simp; omega
    clear h16 hn
    go_enter Tryd.func5, Tryd.ntmps5
    go_wp2
    go_ret
    exact ⟨rfl, Below.refl _ _⟩
end Go.Proofs.YtkmjejgeeghjmaaDoor
