/-
  Contract of netip.parseIPv4Fields for dotted decimal. No condition.
-/
import Derived.Test.YtkmjejgeeghjmaaDoorV4P
namespace Go.Proofs.YtkmjejgeeghjmaaDoor
open Go.RowKit
set_option linter.unusedVariables false

theorem dg10 (d : Nat) (h : d < 10) : (dg d).toNat = 48 + d ∧ dg d ≠ 46 := by
  have : ∀ k : Fin 10, (dg k.val).toNat = 48 + k.val ∧ dg k.val ≠ 46 := by decide +kernel
  exact this ⟨d, h⟩
theorem ba_at {l : List UInt8} {i : Nat} {c : UInt8} (hi : i < l.length) (h : l[i] = c) : (⟨l.toArray⟩ : ByteArray)[i]'(by simpa [ByteArray.size] using hi) = c := h

set_option maxRecDepth 100000 in
set_option maxHeartbeats 4000000 in
theorem v4f_any (inn : ByteArray) (of en B o c n base : Nat) (ys xs : List UInt8) (w : World) (hin : inn.size ≤ 1000000) (hof : of ≤ en) (hen : en ≤ inn.size) (hcut : inn.extract of en = ⟨(dot4 xs).toArray⟩) (hxs : xs.length = 4)
    (t : TypeId) (hown : w.ownsRow base t 1 (.slice (some ⟨B, 0, none⟩) n n) ys.length (cb ys)) (hys : ys.length = n) (ho : o + 4 ≤ n) :
    Calls Tryd.prog 62 #[.string inn, .int .i64 (of : Int), .int .i64 (en : Int), .slice (some ⟨B, o, none⟩) 4 c] w fun e w' => e = .returned .nilIface ∧ w' = putB w B o xs := by
  have HR := Lib.hid (r4_dot4 xs hxs)
  have HX := Lib.hid hxs
  have HY := Lib.hid hys
  have hlen := dot4_len xs
  generalize dot4 xs = l at hcut HR hlen
  clear hxs hys
  go_enter Tryd.func62, Tryd.ntmps62
  go_wp2
  clear hcut
  go_loopw [9, 10, 11, 13] (fun sv sp sk si wr => ∃ (v k i : Nat) (acc r : List UInt8), sv = .int .i64 (v : Int) ∧ sp = .int .i64 (acc.length : Int) ∧ sk = .int .i64 (k : Int) ∧ si = .int .i64 (i : Int) ∧ wr = putB w B o acc ∧ v ≤ 255 ∧ k ≤ i ∧ i ≤ l.length ∧ acc.length ≤ 3 ∧ Hid (l.drop i = r) ∧ Hid (R4 r v k acc xs) ∧ Hid (1 ≤ k → ∃ h : i - 1 < l.length, l[i - 1] ≠ 46)) (fun _ _ _ si _ => l.length - (intOf si).toNat)
  case atStart => exact ⟨0, 0, 0, [], l, rfl, rfl, rfl, rfl, rfl, by omega, by omega, by omega, by simp, rfl, HR.out, fun h => absurd h (by omega)⟩
  case round =>
    obtain ⟨v, k, i, acc, r, rfl, rfl, rfl, rfl, rfl, hv, hki, hil, hacc, HD, HR4, HP⟩ := hrel
    have hdr := HD.out
    have hr4 := HR4.out
    clear HR
    cases hr4 with
    | @digit d r' _ _ _ _ hd hz hv2 hnext =>
      obtain ⟨hi, hc, hdn⟩ := drop_cons hdr
      have hba := ba_at hi hc
      obtain ⟨hc1, hc2⟩ := dg10 d hd
      have HC1 := Lib.hid hc1
      have HC := Lib.hid hc
      have HC2 := Lib.hid hc2
      have HN := Lib.hid hnext
      have HDN := Lib.hid hdn
      have HZ := Lib.hid hz
      have hb1 : 48 ≤ ((dg d).toNat : Int) := by omega
      have hb2 : ((dg d).toNat : Int) ≤ 57 := by omega
      have hv3 : v * 10 + ((dg d).toNat : Int) - 48 ≤ 255 := by omega
      have hv4 : 0 ≤ v * 10 + ((dg d).toNat : Int) - 48 := by omega
      clear hc1 hc2 hc hnext hdn hz hdr HD HR4
      have hrel : ∃ (v' k' i' : Nat) (acc' r : List UInt8), (Value.int .i64 ((v : Int) * 10 + ((dg d).toNat : Int) - 48)) = .int .i64 (v' : Int) ∧ Value.int .i64 (acc.length : Int) = .int .i64 (acc'.length : Int) ∧ Value.int .i64 ((k : Int) + 1) = .int .i64 (k' : Int) ∧ Value.int .i64 ((i : Int) + 1) = .int .i64 (i' : Int) ∧ putB w B o acc = putB w B o acc' ∧ v' ≤ 255 ∧ k' ≤ i' ∧ i' ≤ l.length ∧ acc'.length ≤ 3 ∧ Hid (l.drop i' = r) ∧ Hid (R4 r v' k' acc' xs) ∧ Hid (1 ≤ k' → ∃ h : i' - 1 < l.length, l[i' - 1] ≠ 46) := by
        refine ⟨v * 10 + d, k + 1, i + 1, acc, r', ?_, rfl, by go_num, by go_num, rfl, hv2, by omega, by omega, hacc, HDN.out, HN.out, fun _ => ⟨by omega, ?_⟩⟩
        · have := HC1.out
          congr 1
          omega
        · show l[i] ≠ 46
          rw [HC.out]
          exact HC2.out
      have HREL := Lib.hid hrel
      clear hrel
      by_cases hk1 : k = 1
      · have hv0 : ((v : Int) == 0) = false := by have := HZ.out hk1; simp; omega
        have hk2 : ((k : Int) == 1) = true := by simp [hk1]
        clear hk1
        go_wp2
        go_roundw
        case rel => exact HREL.out
        case measure => simp [intOf]; omega
      · have hk2 : ((k : Int) == 1) = false := by simp; omega
        clear hk1
        go_wp2
        go_roundw
        case rel => exact HREL.out
        case measure => simp [intOf]; omega
    | @dot r' _ _ _ _ hk hr ha hv2 hnext =>
      obtain ⟨hi, hc, hdn⟩ := drop_cons hdr
      have hba := ba_at hi hc
      have hne : i + 1 < l.length := by
        rcases Nat.lt_or_ge (i + 1) l.length with h | h
        · exact h
        · rw [List.drop_of_length_le h] at hdn
          exact absurd hdn.symm hr
      obtain ⟨hp1, hp2⟩ := HP.out hk
      obtain ⟨c2, hc2⟩ : ∃ c2, l[i - 1] = c2 := ⟨_, rfl⟩
      have hba2 := ba_at hp1 hc2
      rw [hc2] at hp2
      have hp3 : ((c2.toNat : Int) == 46) = false := u8ne (y := 46) hp2
      have HN := Lib.hid hnext
      have HDN := Lib.hid hdn
      obtain ⟨z, hcell, hfr⟩ := putB_cell (o := o) hown HY.out acc (by omega)
      have e1 : ((i : Int) == 0) = false := by simp; omega
      have e2 : ((i : Int) == (l.length : Int) - 1) = false := by simp; omega
      have e3 : ((acc.length : Int) == 3) = false := by simp; omega
      have e4 : 1 ≤ (i : Int) := by omega
      have HV := Lib.hid (show ((UInt8.ofNat v).toNat : Int) = (v : Int) by simp; omega)
      have HPB := Lib.hid (putB_snoc w B o acc (UInt8.ofNat v))
      clear hc hdn hnext hc2 hp2 hdr HD HR4 hr
      go_wp2
      go_roundw
      case rel =>
        refine ⟨0, 0, i + 1, acc ++ [UInt8.ofNat v], r', rfl, by simp, rfl, by go_num, ?_, by omega, by omega, by omega, by simp; omega, HDN.out, HN.out, fun h => absurd h (by omega)⟩
        rw [HPB.out, HV.out]
      case measure => simp [intOf]; omega
    | fin ha hv2 =>
      have hle := drop_nil hdr
      have hle2 : (l.length : Int) ≤ (i : Int) := by omega
      obtain ⟨z, hcell, hfr⟩ := putB_cell (o := o) hown HY.out acc (by omega)
      have HV := Lib.hid (show ((UInt8.ofNat v).toNat : Int) = (v : Int) by simp; omega)
      have HPB := Lib.hid (putB_snoc w B o acc (UInt8.ofNat v))
      rw [ha] at hcell hfr HPB
      have HA := Lib.hid ha
      have ha3 : 3 ≤ (acc.length : Int) := by omega
      clear hdr HD HR4 ha
      go_wp2
      go_ret
      refine ⟨rfl, ?_⟩
      rw [HPB.out, HV.out]
end Go.Proofs.YtkmjejgeeghjmaaDoor
