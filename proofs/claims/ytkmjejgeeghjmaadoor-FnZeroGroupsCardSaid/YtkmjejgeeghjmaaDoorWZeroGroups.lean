/-
  The walk of the law FnZeroGroups. No condition.
-/
import Derived.Test.YtkmjejgeeghjmaaDoorWMixedForm
namespace Go.Proofs.YtkmjejgeeghjmaaDoor
open Go.RowKit
set_option linter.unusedVariables false

/-- how many zeros may go from a group -/
def cutOf (ws : List UInt8) (i : Nat) : Nat := if ws.length = 0 then 0 else (ws.getD (i % ws.length) 0).toNat % 4
theorem cutOf_lt (ws : List UInt8) (i : Nat) : cutOf ws i < 4 := by unfold cutOf; split <;> omega
/-- a group's text -/
def txz (xs ws : List UInt8) (i : Nat) : List UInt8 := cutz (cutOf ws i) (txh xs i)
theorem txz_grp (xs ws : List UInt8) (h : xs.length = 16) (i : Nat) (hi : i < 8) : Grp (txz xs ws i) (gr xs i) :=
  grp_cutz _ (txh_grp xs h i hi) (by rw [txh_len]; exact cutOf_lt ws i)
theorem txz_len (xs ws : List UInt8) (i : Nat) : (txz xs ws i).length ≤ 4 := by
  have := cutz_len (cutOf ws i) (txh xs i)
  rw [txh_len] at this
  exact this
theorem reads_zero (xs ws : List UInt8) (h : xs.length = 16) : Reads (jt (txz xs ws) 0 8) xs := by
  have := t6_eight (dot := false) (txz xs ws) (gr xs) (fun i hi => txz_grp xs ws h i hi)
  rw [bv_gr xs h] at this
  exact .inl ⟨false, this⟩
theorem jtz_len (xs ws : List UInt8) (k : Nat) : (jt (txz xs ws) 0 k).length ≤ 5 * k := by
  induction k with
  | zero => simp [jt]
  | succ k ih =>
    rw [jt]
    have := txz_len xs ws (0 + k)
    simp only [List.length_append]
    split <;> simp only [List.length_nil, List.length_cons] <;> omega

set_option maxRecDepth 100000 in
set_option maxHeartbeats 4000000 in
theorem walk_FnZeroGroups (A : Option Addr) (n c : Nat) (xs : List UInt8) (B : Option Addr) (m d : Nat) (ws : List UInt8) (w : World) (hn : xs.length = n) (hc : n ≤ c) (hs : c ≤ 140737488351232) (ha : Rd w A xs) (hm : ws.length = m) (hd : m ≤ d) (hs2 : d ≤ 140737488351232) (hb : Rd w B ws) (hvars : ∃ p4 p6, ZF w p4 p6) :
    Calls Tryd.prog 7 #[.slice A n c, .slice B m d] w fun e w' => e = .returned (.bool true) ∧ Below w.heap.size w w' := by
  obtain ⟨p4, p6, hz⟩ := hvars
  by_cases h16 : n = 16
  · subst h16
    have HN := Lib.hid hn
    have HM := Lib.hid hm
    obtain ⟨b, off, rfl, hbl, _⟩ := ha.at_ (k := 0) (by omega)
    have hc' : (16 : Int) ≤ (c : Int) := by omega
    clear hn hm
    go_enter Tryd.func7, Tryd.ntmps7
    go_wp2
    go_loopg [14, 5] 8 (fun g i s wr => ∃ (k r : Nat) (l : List UInt8), k + g = 8 ∧ i = .int .i64 (k : Int) ∧ s = .string ⟨l.toArray⟩ ∧ l.length ≤ 40 ∧ Hid (l = jt (txz xs ws) 0 k) ∧ wr = w.drewN r)
    case atStart => exact ⟨0, 0, [], by omega, rfl, rfl, by simp, rfl, rfl⟩
    case round =>
      obtain ⟨k, r, l, hk, rfl, rfl, hl, HL, rfl⟩ := hrel
      by_cases hlt : k < 8
      · have HX := Lib.hid (txh_cut xs HN.out k (by omega))
        have H2 := Lib.hid (show ((xs.drop (2 * k)).take 2).length = 2 by simp [HN.out]; omega)
        have HJ := Lib.hid (show jt (txz xs ws) 0 (k + 1) = l ++ ((if k = 0 then [] else [58]) ++ txz xs ws k) by rw [jt, HL.out, Nat.zero_add])
        have HJL := Lib.hid (jtz_len xs ws (k + 1))
        have hx4 := txh_len xs k
        have HZ := Lib.hid (show txz xs ws k = cutz (cutOf ws k) (txh xs k) from rfl)
        have hzl := txz_len xs ws k
        generalize txz xs ws k = TZ at HJ HZ hzl
        generalize txh xs k = T at HX hx4 HZ
        obtain ⟨GKO, hGKO⟩ : ∃ g, g = gk := ⟨_, rfl⟩
        have hGK1 : GKO + k = 8 := by omega
        have hGK2 : GKO ≤ gk := by omega
        have hGK3 : gk ≤ GKO := by omega
        clear hGKO
        by_cases hk0 : k = 0
        · have HK0 := Lib.hid hk0
          have hkz : ¬ (0 : Int) < (k : Int) := by omega
          clear hk0
          by_cases hm0 : m = 0
          · have HM0 := Lib.hid hm0
            have hmz : ¬ (0 : Int) < (m : Int) := by omega
            clear hm0
            have HE := Lib.hid (show l ++ TZ = jt (txz xs ws) 0 (k + 1) by rw [HJ.out, if_pos HK0.out]; simp)
            have HCT := Lib.hid (show cutOf ws k = 0 by unfold cutOf; rw [if_pos (by rw [HM.out]; exact HM0.out)])
            go_wp2_with fail
            refine (specHex_any _ _ _ ((xs.drop (2 * k)).take 2) _ H2.out (by exact ha.cut (2 * k) 2) (by decide)).mono ?_
            rintro e w1 ⟨rfl, k1, rfl⟩
            rw [HX.out]
            go_wp2
            go_loopg [7, 8] 0 (fun g h cut wi => ∃ (h1 : List UInt8) (j : Nat), h = .string ⟨h1.toArray⟩ ∧ cut = .int .i64 (j : Int) ∧ j < h1.length ∧ h1.length ≤ 4 ∧ Hid (cutz j h1 = TZ) ∧ Hid (j = g) ∧ wi = w.drewN (r + k1))
            case atStart => exact ⟨T, 0, rfl, rfl, by omega, by omega, by show cutz 0 T = TZ; rw [HZ.out, HCT.out], rfl, rfl⟩
            case round =>
              obtain ⟨h1, j, rfl, rfl, hj1, hj4, HC, HJG, rfl⟩ := hrel
              rcases j with _ | j
              · obtain rfl : h1 = TZ := HC.out
                go_wp2
                go_roundg (GKO - 1)
                case measure => omega
                case rel => exact ⟨k + 1, _, l ++ h1, by omega, by go_num, by rw [← ba_app], by rw [show l ++ h1 = jt (txz xs ws) 0 (k + 1) from HE.out]; have := HJL.out; omega, HE.out, rfl⟩
              · rcases h1 with _ | ⟨x0, h1⟩
                · simp at hj1
                · obtain ⟨H1, hH1⟩ : ∃ H1, H1 = x0 :: h1 := ⟨_, rfl⟩
                  have hp0 : 0 < H1.length := by rw [hH1]; simp
                  have hba := ba_at (l := H1) (i := 0) (c := x0) hp0 (by simp [hH1])
                  have hcut := cut_one hH1
                  have hl1 : H1.length = h1.length + 1 := by rw [hH1]; simp
                  rw [← hH1] at HC hj1 hj4 ⊢
                  have HL1 := Lib.hid hl1
                  by_cases hx0 : x0 = 48
                  · have HC2 := Lib.hid (show cutz j h1 = TZ by rw [← HC.out, hH1, hx0, cutz_yes])
                    have hxe : ((x0.toNat : Int) == 48) = true := by rw [hx0]; rfl
                    clear hl1 hH1 hx0
                    go_wp2
                    go_roundg (gk - 1)
                    case measure => have := HJG.out; omega
                    case rel => exact ⟨h1, j, rfl, by go_num, by have := HL1.out; omega, by have := HL1.out; omega, HC2.out, (by show j = _; have := HJG.out; omega), rfl⟩
                  · have HC2 : H1 = TZ := by rw [← HC.out, hH1, cutz_no _ _ hx0]
                    have hxe : ((x0.toNat : Int) == 48) = false := u8ne (y := 48) hx0
                    subst HC2
                    clear hl1 hH1 hx0
                    go_wp2
                    go_roundg (GKO - 1)
                    case measure => omega
                    case rel => exact ⟨k + 1, _, l ++ H1, by omega, by go_num, by rw [← ba_app], by rw [show l ++ H1 = jt (txz xs ws) 0 (k + 1) from HE.out]; have := HJL.out; omega, HE.out, rfl⟩
          · have hmz : (0 : Int) < (m : Int) := by omega
            clear hm0
            have HE := Lib.hid (show l ++ TZ = jt (txz xs ws) 0 (k + 1) by rw [HJ.out, if_pos HK0.out]; simp)
            obtain ⟨b2, off2, hB2, _, hcw⟩ := hb.at_ (k := k % m) (by rw [HM.out]; exact Nat.mod_lt _ (by omega))
            have hmod : k % m < ws.length := by rw [HM.out]; exact Nat.mod_lt _ (by omega)
            have hcell := hcw (k % m) hmod
            have HCT := Lib.hid (show cutOf ws k = (ws[k % m]).toNat % 4 by unfold cutOf; rw [if_neg (by rw [HM.out]; omega), List.getD_eq_getElem?_getD]; simp only [HM.out]; rw [List.getElem?_eq_getElem hmod]; rfl)
            generalize ws[k % m] = x at hcell HCT
            have hx8 := x.toNat_lt
            have hmm : (k : Int) % (m : Int) < (m : Int) := Int.emod_lt_of_pos _ (by omega)
            have hmm0 : 0 ≤ (k : Int) % (m : Int) := Int.emod_nonneg _ (by omega)
            have hmt : ((k : Int) % (m : Int)).toNat = k % m := by omega
            subst hB2
            clear hcw hmod
            go_wp2_with fail
            refine (specHex_any _ _ _ ((xs.drop (2 * k)).take 2) _ H2.out (by exact ha.cut (2 * k) 2) (by decide)).mono ?_
            rintro e w1 ⟨rfl, k1, rfl⟩
            rw [HX.out]
            go_wp2
            go_loopg [7, 8] (x.toNat % 4) (fun g h cut wi => ∃ (h1 : List UInt8) (j : Nat), h = .string ⟨h1.toArray⟩ ∧ cut = .int .i64 (j : Int) ∧ j < h1.length ∧ h1.length ≤ 4 ∧ Hid (cutz j h1 = TZ) ∧ Hid (j = g) ∧ wi = w.drewN (r + k1))
            case atStart => exact ⟨T, (x.toNat % 4), rfl, by go_num, by omega, by omega, by show cutz (x.toNat % 4) T = TZ; rw [HZ.out, HCT.out], rfl, rfl⟩
            case round =>
              obtain ⟨h1, j, rfl, rfl, hj1, hj4, HC, HJG, rfl⟩ := hrel
              rcases j with _ | j
              · obtain rfl : h1 = TZ := HC.out
                go_wp2
                go_roundg (GKO - 1)
                case measure => omega
                case rel => exact ⟨k + 1, _, l ++ h1, by omega, by go_num, by rw [← ba_app], by rw [show l ++ h1 = jt (txz xs ws) 0 (k + 1) from HE.out]; have := HJL.out; omega, HE.out, rfl⟩
              · rcases h1 with _ | ⟨x0, h1⟩
                · simp at hj1
                · obtain ⟨H1, hH1⟩ : ∃ H1, H1 = x0 :: h1 := ⟨_, rfl⟩
                  have hp0 : 0 < H1.length := by rw [hH1]; simp
                  have hba := ba_at (l := H1) (i := 0) (c := x0) hp0 (by simp [hH1])
                  have hcut := cut_one hH1
                  have hl1 : H1.length = h1.length + 1 := by rw [hH1]; simp
                  rw [← hH1] at HC hj1 hj4 ⊢
                  have HL1 := Lib.hid hl1
                  by_cases hx0 : x0 = 48
                  · have HC2 := Lib.hid (show cutz j h1 = TZ by rw [← HC.out, hH1, hx0, cutz_yes])
                    have hxe : ((x0.toNat : Int) == 48) = true := by rw [hx0]; rfl
                    clear hl1 hH1 hx0
                    go_wp2
                    go_roundg (gk - 1)
                    case measure => have := HJG.out; omega
                    case rel => exact ⟨h1, j, rfl, by go_num, by have := HL1.out; omega, by have := HL1.out; omega, HC2.out, (by show j = _; have := HJG.out; omega), rfl⟩
                  · have HC2 : H1 = TZ := by rw [← HC.out, hH1, cutz_no _ _ hx0]
                    have hxe : ((x0.toNat : Int) == 48) = false := u8ne (y := 48) hx0
                    subst HC2
                    clear hl1 hH1 hx0
                    go_wp2
                    go_roundg (GKO - 1)
                    case measure => omega
                    case rel => exact ⟨k + 1, _, l ++ H1, by omega, by go_num, by rw [← ba_app], by rw [show l ++ H1 = jt (txz xs ws) 0 (k + 1) from HE.out]; have := HJL.out; omega, HE.out, rfl⟩
        · have HK0 := Lib.hid hk0
          have hkz : (0 : Int) < (k : Int) := by omega
          clear hk0
          by_cases hm0 : m = 0
          · have HM0 := Lib.hid hm0
            have hmz : ¬ (0 : Int) < (m : Int) := by omega
            clear hm0
            have HE := Lib.hid (show (l ++ [58]) ++ TZ = jt (txz xs ws) 0 (k + 1) by rw [HJ.out, if_neg HK0.out]; simp)
            have HCT := Lib.hid (show cutOf ws k = 0 by unfold cutOf; rw [if_pos (by rw [HM.out]; exact HM0.out)])
            go_wp2_with fail
            refine (specHex_any _ _ _ ((xs.drop (2 * k)).take 2) _ H2.out (by exact ha.cut (2 * k) 2) (by decide)).mono ?_
            rintro e w1 ⟨rfl, k1, rfl⟩
            rw [HX.out]
            go_wp2
            go_loopg [7, 8] 0 (fun g h cut wi => ∃ (h1 : List UInt8) (j : Nat), h = .string ⟨h1.toArray⟩ ∧ cut = .int .i64 (j : Int) ∧ j < h1.length ∧ h1.length ≤ 4 ∧ Hid (cutz j h1 = TZ) ∧ Hid (j = g) ∧ wi = w.drewN (r + k1))
            case atStart => exact ⟨T, 0, rfl, rfl, by omega, by omega, by show cutz 0 T = TZ; rw [HZ.out, HCT.out], rfl, rfl⟩
            case round =>
              obtain ⟨h1, j, rfl, rfl, hj1, hj4, HC, HJG, rfl⟩ := hrel
              rcases j with _ | j
              · obtain rfl : h1 = TZ := HC.out
                go_wp2
                go_roundg (GKO - 1)
                case measure => omega
                case rel => exact ⟨k + 1, _, (l ++ [58]) ++ h1, by omega, by go_num, by rw [← ba_app, ← ba_app], by rw [show (l ++ [58]) ++ h1 = jt (txz xs ws) 0 (k + 1) from HE.out]; have := HJL.out; omega, HE.out, rfl⟩
              · rcases h1 with _ | ⟨x0, h1⟩
                · simp at hj1
                · obtain ⟨H1, hH1⟩ : ∃ H1, H1 = x0 :: h1 := ⟨_, rfl⟩
                  have hp0 : 0 < H1.length := by rw [hH1]; simp
                  have hba := ba_at (l := H1) (i := 0) (c := x0) hp0 (by simp [hH1])
                  have hcut := cut_one hH1
                  have hl1 : H1.length = h1.length + 1 := by rw [hH1]; simp
                  rw [← hH1] at HC hj1 hj4 ⊢
                  have HL1 := Lib.hid hl1
                  by_cases hx0 : x0 = 48
                  · have HC2 := Lib.hid (show cutz j h1 = TZ by rw [← HC.out, hH1, hx0, cutz_yes])
                    have hxe : ((x0.toNat : Int) == 48) = true := by rw [hx0]; rfl
                    clear hl1 hH1 hx0
                    go_wp2
                    go_roundg (gk - 1)
                    case measure => have := HJG.out; omega
                    case rel => exact ⟨h1, j, rfl, by go_num, by have := HL1.out; omega, by have := HL1.out; omega, HC2.out, (by show j = _; have := HJG.out; omega), rfl⟩
                  · have HC2 : H1 = TZ := by rw [← HC.out, hH1, cutz_no _ _ hx0]
                    have hxe : ((x0.toNat : Int) == 48) = false := u8ne (y := 48) hx0
                    subst HC2
                    clear hl1 hH1 hx0
                    go_wp2
                    go_roundg (GKO - 1)
                    case measure => omega
                    case rel => exact ⟨k + 1, _, (l ++ [58]) ++ H1, by omega, by go_num, by rw [← ba_app, ← ba_app], by rw [show (l ++ [58]) ++ H1 = jt (txz xs ws) 0 (k + 1) from HE.out]; have := HJL.out; omega, HE.out, rfl⟩
          · have hmz : (0 : Int) < (m : Int) := by omega
            clear hm0
            have HE := Lib.hid (show (l ++ [58]) ++ TZ = jt (txz xs ws) 0 (k + 1) by rw [HJ.out, if_neg HK0.out]; simp)
            obtain ⟨b2, off2, hB2, _, hcw⟩ := hb.at_ (k := k % m) (by rw [HM.out]; exact Nat.mod_lt _ (by omega))
            have hmod : k % m < ws.length := by rw [HM.out]; exact Nat.mod_lt _ (by omega)
            have hcell := hcw (k % m) hmod
            have HCT := Lib.hid (show cutOf ws k = (ws[k % m]).toNat % 4 by unfold cutOf; rw [if_neg (by rw [HM.out]; omega), List.getD_eq_getElem?_getD]; simp only [HM.out]; rw [List.getElem?_eq_getElem hmod]; rfl)
            generalize ws[k % m] = x at hcell HCT
            have hx8 := x.toNat_lt
            have hmm : (k : Int) % (m : Int) < (m : Int) := Int.emod_lt_of_pos _ (by omega)
            have hmm0 : 0 ≤ (k : Int) % (m : Int) := Int.emod_nonneg _ (by omega)
            have hmt : ((k : Int) % (m : Int)).toNat = k % m := by omega
            subst hB2
            clear hcw hmod
            go_wp2_with fail
            refine (specHex_any _ _ _ ((xs.drop (2 * k)).take 2) _ H2.out (by exact ha.cut (2 * k) 2) (by decide)).mono ?_
            rintro e w1 ⟨rfl, k1, rfl⟩
            rw [HX.out]
            go_wp2
            go_loopg [7, 8] (x.toNat % 4) (fun g h cut wi => ∃ (h1 : List UInt8) (j : Nat), h = .string ⟨h1.toArray⟩ ∧ cut = .int .i64 (j : Int) ∧ j < h1.length ∧ h1.length ≤ 4 ∧ Hid (cutz j h1 = TZ) ∧ Hid (j = g) ∧ wi = w.drewN (r + k1))
            case atStart => exact ⟨T, (x.toNat % 4), rfl, by go_num, by omega, by omega, by show cutz (x.toNat % 4) T = TZ; rw [HZ.out, HCT.out], rfl, rfl⟩
            case round =>
              obtain ⟨h1, j, rfl, rfl, hj1, hj4, HC, HJG, rfl⟩ := hrel
              rcases j with _ | j
              · obtain rfl : h1 = TZ := HC.out
                go_wp2
                go_roundg (GKO - 1)
                case measure => omega
                case rel => exact ⟨k + 1, _, (l ++ [58]) ++ h1, by omega, by go_num, by rw [← ba_app, ← ba_app], by rw [show (l ++ [58]) ++ h1 = jt (txz xs ws) 0 (k + 1) from HE.out]; have := HJL.out; omega, HE.out, rfl⟩
              · rcases h1 with _ | ⟨x0, h1⟩
                · simp at hj1
                · obtain ⟨H1, hH1⟩ : ∃ H1, H1 = x0 :: h1 := ⟨_, rfl⟩
                  have hp0 : 0 < H1.length := by rw [hH1]; simp
                  have hba := ba_at (l := H1) (i := 0) (c := x0) hp0 (by simp [hH1])
                  have hcut := cut_one hH1
                  have hl1 : H1.length = h1.length + 1 := by rw [hH1]; simp
                  rw [← hH1] at HC hj1 hj4 ⊢
                  have HL1 := Lib.hid hl1
                  by_cases hx0 : x0 = 48
                  · have HC2 := Lib.hid (show cutz j h1 = TZ by rw [← HC.out, hH1, hx0, cutz_yes])
                    have hxe : ((x0.toNat : Int) == 48) = true := by rw [hx0]; rfl
                    clear hl1 hH1 hx0
                    go_wp2
                    go_roundg (gk - 1)
                    case measure => have := HJG.out; omega
                    case rel => exact ⟨h1, j, rfl, by go_num, by have := HL1.out; omega, by have := HL1.out; omega, HC2.out, (by show j = _; have := HJG.out; omega), rfl⟩
                  · have HC2 : H1 = TZ := by rw [← HC.out, hH1, cutz_no _ _ hx0]
                    have hxe : ((x0.toNat : Int) == 48) = false := u8ne (y := 48) hx0
                    subst HC2
                    clear hl1 hH1 hx0
                    go_wp2
                    go_roundg (GKO - 1)
                    case measure => omega
                    case rel => exact ⟨k + 1, _, (l ++ [58]) ++ H1, by omega, by go_num, by rw [← ba_app, ← ba_app], by rw [show (l ++ [58]) ++ H1 = jt (txz xs ws) 0 (k + 1) from HE.out]; have := HJL.out; omega, HE.out, rfl⟩
      · have hk8 : Hid (k = 8) := by show k = 8; omega
        have HRD := Lib.hid (show Reads l xs by rw [HL.out, hk8.out]; exact reads_zero xs ws HN.out)
        go_wp2_with fail
        refine (implParseIP_any HRD.out p4 p6 _ (hz.drewN _)).mono ?_
        rintro e w2 ⟨A2, n2, c2, rfl, hn2, hown2, hb2'⟩
        have hb2 : Below w.heap.size w w2 := below_undrewN hb2'
        have hn2' : n2 = 16 := by rw [← hn2]; exact HN.out
        subst hn2'
        clear hn2
        go_wp2_with fail
        refine (same_any _ _ _ _ _ _ xs xs _ HN.out HN.out (by exact Rd.of_own hown2) (by exact ha.below hb2) (by decide) true (eqb_true rfl)).mono ?_
        rintro e w3 ⟨rfl, k3, rfl⟩
        go_wp2
        go_ret
        exact ⟨rfl, below_drewN hb2 _⟩
  · have e16 : ((n : Int) != 16) = true := by simp; omega
    clear h16 hn
    go_enter Tryd.func7, Tryd.ntmps7
    go_wp2
    go_ret
    exact ⟨rfl, Below.refl _ _⟩
end Go.Proofs.YtkmjejgeeghjmaaDoor
