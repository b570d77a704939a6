/-
  Contracts of net.CIDRMask and impl.CIDRMask: so many ones, then zeros, up to 32 or 128 bits; for other numbers there is none. No condition.
-/
import Derived.Test.YtjepkkfpgmgnjaaDoorBase
namespace Go.Proofs.YtjepkkfpgmgnjaaDoor
open Go.RowKit
set_option linter.unusedVariables false

/-- a byte that begins with so many ones -/
def ob (m : Nat) : UInt8 := if 8 ≤ m then 255 else UInt8.ofNat (255 - 255 / 2 ^ m)
/-- l bytes that begin with n ones -/
def cidr (l n : Nat) : List UInt8 := (List.range l).map fun i => ob (n - 8 * i)
theorem cidr_length (l n : Nat) : (cidr l n).length = l := by simp [cidr]
theorem cidr_get (l n k : Nat) (h : k < l) (h' : k < (cidr l n).length) : (cidr l n)[k] = ob (n - 8 * k) := by simp [cidr]
/-- the first k bytes of that, then zeros -/
def cidrTo (l n k : Nat) : List UInt8 := (cidr l n).take k ++ List.replicate (l - k) 0
theorem cidrTo_length (l n k : Nat) (h : k ≤ l) : (cidrTo l n k).length = l := by simp [cidrTo, cidr_length]; omega
theorem cidrTo_all (l n : Nat) : cidrTo l n l = cidr l n := by simp [cidrTo, List.take_of_length_le (Nat.le_of_eq (cidr_length l n))]
theorem cidrTo_step (l n k : Nat) (h : k < l) : (cidrTo l n k).set k (ob (n - 8 * k)) = cidrTo l n (k + 1) := by
  unfold cidrTo
  have e1 : ((cidr l n).take k).length = k := by simp [cidr_length]; omega
  rw [List.set_append_right _ _ (by omega), e1, Nat.sub_self, show l - k = (l - (k + 1)) + 1 by omega, List.replicate_succ, List.set_cons_zero]
  rw [List.take_succ_eq_append_getElem (show k < (cidr l n).length by rw [cidr_length]; exact h), cidr_get l n k h]
  simp
theorem ob_big {m : Nat} (h : 8 ≤ m) : ob m = 255 := by simp [ob, h]
theorem ob_small {m : Nat} (h : m < 8) : ((ob m).toNat : Int) = 255 - 255 / 2 ^ m := by
  have : ∀ m : Fin 8, ((ob m.val).toNat : Int) = 255 - 255 / 2 ^ m.val := by decide
  exact this ⟨m, h⟩

theorem ob_xor (m : Nat) (h : m < 8) : bits BinOp.xor IntKind.u8 (if IntKind.u8.signed = true then -1 else IntKind.u8.max) (255 / 2 ^ m) = ((ob m).toNat : Int) := by
  have : ∀ m : Fin 8, bits BinOp.xor IntKind.u8 (if IntKind.u8.signed = true then -1 else IntKind.u8.max) (255 / 2 ^ m.val) = ((ob m.val).toNat : Int) := by decide +kernel
  exact this ⟨m, h⟩

set_option maxHeartbeats 1000000 in
theorem netCIDR_4 (n : Nat) (w : World) (hn : n ≤ 32) :
    Calls Tryd.prog 37 #[.int .i64 (n : Int), .int .i64 32] w fun e w' =>
      e = .returned (.slice (some ⟨w.heap.size, 0, none⟩) 4 4) ∧ w'.ownsRow w.heap.size 5 1 (.slice (some ⟨w.heap.size, 0, none⟩) 4 4) (cidr 4 n).length (cb (cidr 4 n)) ∧ Below w.heap.size w w' := by
  have t1 : decide ((n : Int) < 0) = false := by simp
  have t2 : decide ((32 : Int) < (n : Int)) = false := by simp; omega
  go_enter Tryd.func37, Tryd.ntmps37
  go_wp2_with (refine wpList_mk8 rfl (.tmp 24) (.tmp 24) 47 rfl 5 Tryd.underlying47 info8 .i64 .i64 _ _ 4 rfl rfl rfl rfl (by decide) ?_)
  intro w1 hown hg
  have hb1 : Below w.heap.size w w1 := (Below.refl _ _).grown hg (Nat.le_refl _) (by simp)
  have ho1 : w1.ownsRow w.heap.size 5 1 (.slice (some ⟨w.heap.size, 0, none⟩) 4 4) (cidrTo 4 n 0).length (cb (cidrTo 4 n 0)) := by simpa [cidrTo] using hown
  clear hown hg
  go_wp2
  go_loopw [8, 7] (fun i v wr => ∃ k m : Nat, k ≤ 4 ∧ i = .int .i64 k ∧ v = .int .u64 m ∧ m ≤ 32 ∧ wr.ownsRow w.heap.size 5 1 (.slice (some ⟨w.heap.size, 0, none⟩) 4 4) (cidrTo 4 n k).length (cb (cidrTo 4 n k)) ∧ Below w.heap.size w wr ∧ Hid (m = n - 8 * k)) (fun i _ _ => 4 - (intOf i).toNat)
  case atStart => exact ⟨0, n, by decide, rfl, rfl, hn, ho1, hb1, rfl⟩
  case round =>
    obtain ⟨k, m, hk, rfl, rfl, hm, ho, hb, HM⟩ := hrel
    by_cases hlt : k < 4
    · have hlen := cidrTo_length 4 n k (by omega)
      have c0 := own_cell ho (j := k) (by omega) hlen
      have f0 := own_frozen ho k hlen
      generalize (cidrTo 4 n k)[k] = y at c0
      have HS := Lib.hid (cidrTo_step 4 n k hlt)
      have HL := Lib.hid hlen
      clear hlen
      by_cases h8 : 8 ≤ m
      · have t3 : (8 : Int) ≤ (m : Int) := by omega
        go_wp2
        go_roundw
        case rel =>
          have R := own_store ho (j := k) 255 HL.out
          have e1 : ob (n - 8 * k) = 255 := ob_big (by rw [← HM.out]; exact h8)
          have e2 := HS.out
          rw [e1] at e2
          rw [e2] at R
          exact ⟨k + 1, m - 8, by omega, by go_num, by go_num, by omega, R, hb.setCell (p := ⟨w.heap.size, k, none⟩) (Nat.le_refl _) _, by have := HM.out; show m - 8 = n - 8 * (k + 1); omega⟩
        case measure => simp [intOf]; omega
      · have t3 : (m : Int) < 8 := by omega
        have t4 : decide ((8 : Int) ≤ (m : Int)) = false := by simp; omega
        go_wp2
        go_roundw
        case rel =>
          have R := own_store ho (j := k) (ob m) HL.out
          have e2 := HS.out
          rw [← HM.out] at e2
          rw [e2] at R
          rw [ob_xor m (by omega)]
          exact ⟨k + 1, 0, by omega, by go_num, rfl, by omega, R, hb.setCell (p := ⟨w.heap.size, k, none⟩) (Nat.le_refl _) _, by have := HM.out; show 0 = n - 8 * (k + 1); omega⟩
        case measure => simp [intOf]; omega
    · have e1 : k = 4 := by omega
      subst e1
      rw [cidrTo_all] at ho
      go_wp2
      go_ret
      exact ⟨rfl, ho, hb⟩
set_option maxHeartbeats 1000000 in
theorem netCIDR_16 (n : Nat) (w : World) (hn : n ≤ 128) :
    Calls Tryd.prog 37 #[.int .i64 (n : Int), .int .i64 128] w fun e w' =>
      e = .returned (.slice (some ⟨w.heap.size, 0, none⟩) 16 16) ∧ w'.ownsRow w.heap.size 5 1 (.slice (some ⟨w.heap.size, 0, none⟩) 16 16) (cidr 16 n).length (cb (cidr 16 n)) ∧ Below w.heap.size w w' := by
  have t1 : decide ((n : Int) < 0) = false := by simp
  have t2 : decide ((128 : Int) < (n : Int)) = false := by simp; omega
  go_enter Tryd.func37, Tryd.ntmps37
  go_wp2_with (refine wpList_mk8 rfl (.tmp 24) (.tmp 24) 47 rfl 5 Tryd.underlying47 info8 .i64 .i64 _ _ 16 rfl rfl rfl rfl (by decide) ?_)
  intro w1 hown hg
  have hb1 : Below w.heap.size w w1 := (Below.refl _ _).grown hg (Nat.le_refl _) (by simp)
  have ho1 : w1.ownsRow w.heap.size 5 1 (.slice (some ⟨w.heap.size, 0, none⟩) 16 16) (cidrTo 16 n 0).length (cb (cidrTo 16 n 0)) := by simpa [cidrTo] using hown
  clear hown hg
  go_wp2
  go_loopw [8, 7] (fun i v wr => ∃ k m : Nat, k ≤ 16 ∧ i = .int .i64 k ∧ v = .int .u64 m ∧ m ≤ 128 ∧ wr.ownsRow w.heap.size 5 1 (.slice (some ⟨w.heap.size, 0, none⟩) 16 16) (cidrTo 16 n k).length (cb (cidrTo 16 n k)) ∧ Below w.heap.size w wr ∧ Hid (m = n - 8 * k)) (fun i _ _ => 16 - (intOf i).toNat)
  case atStart => exact ⟨0, n, by decide, rfl, rfl, hn, ho1, hb1, rfl⟩
  case round =>
    obtain ⟨k, m, hk, rfl, rfl, hm, ho, hb, HM⟩ := hrel
    by_cases hlt : k < 16
    · have hlen := cidrTo_length 16 n k (by omega)
      have c0 := own_cell ho (j := k) (by omega) hlen
      have f0 := own_frozen ho k hlen
      generalize (cidrTo 16 n k)[k] = y at c0
      have HS := Lib.hid (cidrTo_step 16 n k hlt)
      have HL := Lib.hid hlen
      clear hlen
      by_cases h8 : 8 ≤ m
      · have t3 : (8 : Int) ≤ (m : Int) := by omega
        go_wp2
        go_roundw
        case rel =>
          have R := own_store ho (j := k) 255 HL.out
          have e1 : ob (n - 8 * k) = 255 := ob_big (by rw [← HM.out]; exact h8)
          have e2 := HS.out
          rw [e1] at e2
          rw [e2] at R
          exact ⟨k + 1, m - 8, by omega, by go_num, by go_num, by omega, R, hb.setCell (p := ⟨w.heap.size, k, none⟩) (Nat.le_refl _) _, by have := HM.out; show m - 8 = n - 8 * (k + 1); omega⟩
        case measure => simp [intOf]; omega
      · have t3 : (m : Int) < 8 := by omega
        have t4 : decide ((8 : Int) ≤ (m : Int)) = false := by simp; omega
        go_wp2
        go_roundw
        case rel =>
          have R := own_store ho (j := k) (ob m) HL.out
          have e2 := HS.out
          rw [← HM.out] at e2
          rw [e2] at R
          rw [ob_xor m (by omega)]
          exact ⟨k + 1, 0, by omega, by go_num, rfl, by omega, R, hb.setCell (p := ⟨w.heap.size, k, none⟩) (Nat.le_refl _) _, by have := HM.out; show 0 = n - 8 * (k + 1); omega⟩
        case measure => simp [intOf]; omega
    · have e1 : k = 16 := by omega
      subst e1
      rw [cidrTo_all] at ho
      go_wp2
      go_ret
      exact ⟨rfl, ho, hb⟩

theorem netCIDR_none (o b : Int) (w : World) (h : (b ≠ 32 ∧ b ≠ 128) ∨ o < 0 ∨ b < o) (wo : (Lit.int .i64 o).wf = true) (wb : (Lit.int .i64 b).wf = true) :
    Calls Tryd.prog 37 #[.int .i64 o, .int .i64 b] w fun e w' => e = .returned (.slice none 0 0) ∧ w = w' := by
  by_cases h1 : b = 32
  · subst h1
    by_cases h2 : o < 0
    · have t1 : decide (o < 0) = true := by simpa using h2
      go_enter Tryd.func37, Tryd.ntmps37
      go_wp2
      go_ret
      exact ⟨rfl, rfl⟩
    · have t1 : decide (o < 0) = false := by simpa using h2
      have t2 : decide ((32 : Int) < o) = true := by simp; omega
      clear h h2
      go_enter Tryd.func37, Tryd.ntmps37
      go_wp2
      go_ret
      exact ⟨rfl, rfl⟩
  · have t0 : (b != 32) = true := by rw [bne_iff_ne]; exact h1
    by_cases h3 : b = 128
    · subst h3
      by_cases h2 : o < 0
      · have t1 : decide (o < 0) = true := by simpa using h2
        go_enter Tryd.func37, Tryd.ntmps37
        go_wp2
        go_ret
        exact ⟨rfl, rfl⟩
      · have t1 : decide (o < 0) = false := by simpa using h2
        have t2 : decide ((128 : Int) < o) = true := by simp; omega
        clear h h2
        go_enter Tryd.func37, Tryd.ntmps37
        go_wp2
        go_ret
        exact ⟨rfl, rfl⟩
    · have t3 : (b != 128) = true := by rw [bne_iff_ne]; exact h3
      clear h h1 h3
      go_enter Tryd.func37, Tryd.ntmps37
      go_wp2
      go_ret
      exact ⟨rfl, rfl⟩

/-- impl.CIDRMask, where there is a mask -/
theorem implCIDR_ok (n l : Nat) (w : World) (hl : l = 4 ∨ l = 16) (hn : n ≤ 8 * l) (o b : Int) (ho : o = (n : Int)) (hb : b = 8 * (l : Int)) :
    Calls Tryd.prog 20 #[.int .i64 o, .int .i64 b] w fun e w' => OwnOpt 5 w (some (cidr l n)) e w' := by
  subst ho
  have hneq := fun (w : World) (a : Option Addr) (n c : Nat) => run_neq_slice_nil_any (P := Tryd.prog) w 47 5 a n c 0 0 Tryd.underlying47
  rcases hl with rfl | rfl
  · obtain rfl : b = 32 := by omega
    go_enter Tryd.func20, Tryd.ntmps20
    go_wp2_with fail
    refine (netCIDR_4 n _ (by omega)).mono ?_
    rintro e w1 ⟨rfl, hown1, hb1⟩
    go_wp2_with fail
    refine (plain_any _ _ _ (cidr 4 n) _ (cidr_length 4 n) (by exact Rd.of_own hown1) (by decide)).mono ?_
    rintro e w2 ⟨A2, n2, c2, rfl, hn2, hown2, hb2⟩
    have HN := Lib.hid hn2
    clear hn2
    go_wp2
    go_ret2
    exact OwnOpt.some_ rfl HN.out hown2 hb2 hb1
  · obtain rfl : b = 128 := by omega
    go_enter Tryd.func20, Tryd.ntmps20
    go_wp2_with fail
    refine (netCIDR_16 n _ (by omega)).mono ?_
    rintro e w1 ⟨rfl, hown1, hb1⟩
    go_wp2_with fail
    refine (plain_any _ _ _ (cidr 16 n) _ (cidr_length 16 n) (by exact Rd.of_own hown1) (by decide)).mono ?_
    rintro e w2 ⟨A2, n2, c2, rfl, hn2, hown2, hb2⟩
    have HN := Lib.hid hn2
    clear hn2
    go_wp2
    go_ret2
    exact OwnOpt.some_ rfl HN.out hown2 hb2 hb1
/-- impl.CIDRMask, where there is none -/
theorem implCIDR_none (o b : Int) (w : World) (h : (b ≠ 32 ∧ b ≠ 128) ∨ o < 0 ∨ b < o) (wo : (Lit.int .i64 o).wf = true) (wb : (Lit.int .i64 b).wf = true) :
    Calls Tryd.prog 20 #[.int .i64 o, .int .i64 b] w fun e w' => OwnOpt 5 w none e w' := by
  have hneq := fun (w : World) (a : Option Addr) (n c : Nat) => run_neq_slice_nil_any (P := Tryd.prog) w 47 5 a n c 0 0 Tryd.underlying47
  have H := Lib.hid h
  clear h
  go_enter Tryd.func20, Tryd.ntmps20
  go_wp2_with fail
  refine (netCIDR_none o b _ H.out wo wb).mono ?_
  rintro e w1 ⟨rfl, rfl⟩
  go_wp2_with fail
  refine (plain_any _ _ _ [] _ rfl (by exact Rd.nil _ _) (by decide)).mono ?_
  rintro e w2 ⟨A2, n2, c2, rfl, hn2, hown2, hb2⟩
  have HN := Lib.hid hn2
  clear hn2
  go_wp2
  go_ret2
  exact ⟨A2, n2, c2, rfl, HN.out, hown2, hb2⟩
end Go.Proofs.YtjepkkfpgmgnjaaDoor
