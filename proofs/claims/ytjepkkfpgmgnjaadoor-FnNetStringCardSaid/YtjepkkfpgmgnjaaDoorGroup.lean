/-
  Contracts of spec.group and spec.zerosAt. No condition.
-/
import Derived.Test.YtjepkkfpgmgnjaaDoorGroupP
import Derived.Test.YtjepkkfpgmgnjaaDoorSpecHex
namespace Go.Proofs.YtjepkkfpgmgnjaaDoor
open Go.RowKit
set_option linter.unusedVariables false

theorem ret_i64 {a b : Int} (h : a = b) : Ending.returned (.int .i64 a) = .returned (.int .i64 b) := by rw [h]
theorem ret_str {a b : List UInt8} (h : a = b) : Ending.returned (.string ⟨a.toArray⟩) = .returned (.string ⟨b.toArray⟩) := by rw [h]
theorem rd_lit2 (w : World) (x y : UInt8) (t : TypeId) : Rd (w.alloc (.cells #[.int .u8 (x.toNat : Int), .int .u8 (y.toNat : Int)] t)) (some ⟨w.heap.size, 0, none⟩) [x, y] := by
  exact Rd.new w _ t [x, y] rfl

/-- how long a string is -/
def slen : Value → Nat
  | .string b => b.size
  | _ => 0
theorem ba_tail (x : UInt8) (r : List UInt8) : (⟨(x :: r).toArray⟩ : ByteArray).extract 1 (r.length + 1) = ⟨r.toArray⟩ := by
  rw [ba_cut]; simp

theorem slen_tail (x : UInt8) (r : List UInt8) : slen (.string ((⟨(x :: r).toArray⟩ : ByteArray).extract 1 (r.length + 1))) < slen (.string ⟨(x :: r).toArray⟩) := by
  rw [ba_tail]
  simp [slen, ByteArray.size]

set_option maxRecDepth 100000 in
set_option maxHeartbeats 1000000 in
theorem group_any (a b : UInt8) (w : World) :
    Calls Tryd.prog 55 #[.int .u8 (a.toNat : Int), .int .u8 (b.toNat : Int)] w fun e w' => e = .returned (.string ⟨(hx (a.toNat * 256 + b.toNat)).toArray⟩) ∧ Below w.heap.size w w' := by
  have HS := Lib.hid (strip_hex a b)
  have HL := Lib.hid (hex_length [a, b])
  have hrd := rd_lit2 w a b 5
  generalize hx (a.toNat * 256 + b.toNat) = T at HS ⊢
  go_enter Tryd.func55, Tryd.ntmps55
  go_wp2_with fail
  refine (specHex_any _ _ _ [a, b] _ rfl (by exact hrd) (by simp)).mono ?_
  rintro e w1 ⟨rfl, k1, rfl⟩
  generalize hex [a, b] = l0 at HS HL ⊢
  go_wp2
  go_loop [5] (fun s => ∃ l : List UInt8, s = .string ⟨l.toArray⟩ ∧ l.length ≤ 4 ∧ 1 ≤ l.length ∧ Hid (strip l = T)) slen
  case atStart => exact ⟨l0, rfl, by have := HL.out; simp at this; omega, by have := HL.out; simp at this; omega, HS⟩
  case round =>
    obtain ⟨l, rfl, h4, h1, HT⟩ := hrel
    rcases l with _ | ⟨x, _ | ⟨y, r⟩⟩
    · simp at h1
    · go_wp2
      go_ret
      exact ⟨ret_str (by rw [← HT.out]; rfl), below_drewN (by go_grown) _⟩
    · by_cases hx : x = 48
      · subst hx
        have H2 := Lib.hid (show strip (y :: r) = T by rw [← HT.out]; exact (strip_yes rfl (by simp)).symm)
        go_wp2
        go_round
        case rel => exact ⟨y :: r, by rw [← ba_tail 48 (y :: r)]; rfl, by simp at h4 ⊢; omega, by simp, H2⟩
        case measure => exact slen_tail 48 (y :: r)
      · have H2 := Lib.hid (show x :: y :: r = T by rw [← HT.out]; exact (strip_no hx).symm)
        have HX := Lib.hid hx
        clear hx
        go_wp2
        · exfalso
          have h : ((((⟨(x :: y :: r).toArray⟩ : ByteArray)[0]'(by simp [ByteArray.size])).toNat : Int) == 48) = true := by assumption
          exact absurd (h.symm.trans (u8ne (y := 48) HX.out)) (by simp)
        · go_ret
          exact ⟨ret_str H2.out, below_drewN (by go_grown) _⟩

set_option maxRecDepth 100000 in
set_option maxHeartbeats 1000000 in
theorem zerosAt_any (A : Option Addr) (c i : Nat) (xs : List UInt8) (w : World) (hn : xs.length = 16) (ha : Rd w A xs) (hi : i < 8) :
    Calls Tryd.prog 54 #[.slice A 16 c, .int .i64 (i : Int)] w fun e w' => e = .returned (.int .i64 (run (gr xs) i : Int)) ∧ ∃ k, w' = w.drewN k := by
  have HN := Lib.hid hn
  obtain ⟨b, off, rfl, _, hc⟩ := ha.at_ (k := 0) (by omega)
  have HC := Lib.hid hc
  have HG := Lib.hid (fun k hk => gr_at xs hn k hk)
  clear hn hc
  go_enter Tryd.func54, Tryd.ntmps54
  go_wp2
  go_loopw [5] (fun n wr => ∃ k r : Nat, i + k ≤ 8 ∧ n = .int .i64 (k : Int) ∧ wr = w.drewN r ∧ Hid (∀ t, i ≤ t → t < i + k → gr xs t = 0)) (fun n _ => 8 - (intOf n).toNat)
  case atStart => exact ⟨0, 0, by omega, rfl, rfl, fun t h1 h2 => absurd h2 (by omega)⟩
  case round =>
    obtain ⟨k, r, hk, rfl, rfl, HZ⟩ := hrel
    by_cases hlt : i + k < 8
    · have h0 := HC.out (2 * (i + k)) (by rw [HN.out]; omega)
      have h1 := HC.out (2 * (i + k) + 1) (by rw [HN.out]; omega)
      have hg := HG.out (i + k) hlt
      rw [List.getD_eq_getElem?_getD, List.getElem?_eq_getElem (by rw [HN.out]; omega), List.getD_eq_getElem?_getD, List.getElem?_eq_getElem (by rw [HN.out]; omega)] at hg
      simp only [Option.getD_some] at hg
      have HGK := Lib.hid hg
      clear hg
      generalize xs[2 * (i + k)]'(by rw [HN.out]; omega) = x at h0 HGK
      generalize xs[2 * (i + k) + 1]'(by rw [HN.out]; omega) = y at h1 HGK
      go_wp2
      · go_roundw
        case rel =>
          have e0 : x.toNat = 0 := by assumption
          have e1 : ((y.toNat : Int) == 0) = true := by assumption
          refine ⟨k + 1, r, by omega, by go_num, rfl, fun t a1 a2 => ?_⟩
          rcases Nat.lt_or_ge t (i + k) with h | h
          · exact HZ.out t a1 h
          · obtain rfl : t = i + k := by omega
            rw [HGK.out]
            simp at e1
            simp [e0, e1]
        case measure => simp [intOf]; omega
      · have e1 : ((y.toNat : Int) == 0) = false := by assumption
        go_ret
        refine ⟨ret_i64 ?_, _, rfl⟩
        rw [run_eq (j := i + k) (by omega) (by omega) HZ.out (.inr (by rw [HGK.out]; simp at e1; omega))]
        omega
      · have e0 : ¬ x.toNat = 0 := by assumption
        go_ret
        refine ⟨ret_i64 ?_, _, rfl⟩
        rw [run_eq (j := i + k) (by omega) (by omega) HZ.out (.inr (by rw [HGK.out]; omega))]
        omega
    · go_wp2
      go_ret
      refine ⟨ret_i64 ?_, _, rfl⟩
      rw [run_eq (j := i + k) (by omega) (by omega) HZ.out (.inl (by omega))]
      omega
end Go.Proofs.YtjepkkfpgmgnjaaDoor
