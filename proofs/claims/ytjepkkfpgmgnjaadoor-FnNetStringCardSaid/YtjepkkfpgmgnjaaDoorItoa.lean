/-
  Contracts of internal/strconv.small, math/bits.Len64, log10Pow2, bool2, numDigits. No condition.
-/
import Derived.Test.YtjepkkfpgmgnjaaDoorLSmall
import Derived.Lib.Tables
import Derived.Lib.ItoaWalk
namespace Go.Proofs.YtjepkkfpgmgnjaaDoor
open Go.RowKit
set_option linter.unusedVariables false

theorem ext_eq {C : ByteArray} {a b : Nat} {l : List UInt8} (h : (C.extract a b).data.toList = l) : C.extract a b = ⟨l.toArray⟩ := by
  subst h
  rfl
theorem digs1 (C : ByteArray) (hC : ∀ k : Fin 10, (C.extract k.val (k.val + 1)).data.toList = dec k.val) (n : Nat) (h : n < 10) : C.extract n (n + 1) = ⟨(dec n).toArray⟩ := ext_eq (hC ⟨n, h⟩)
theorem digs2 (C : ByteArray) (hC : ∀ k : Fin 100, 10 ≤ k.val → (C.extract (k.val * 2) (k.val * 2 + 2)).data.toList = dec k.val) (n : Nat) (h : n < 100) (h1 : 10 ≤ n) : C.extract (n * 2) (n * 2 + 2) = ⟨(dec n).toArray⟩ := ext_eq (hC ⟨n, h⟩ h1)

set_option maxRecDepth 100000 in
set_option maxHeartbeats 1000000 in
theorem ismall_any (n : Nat) (h : n < 100) (w : World) :
    Calls Tryd.prog 90 #[.int .i64 (n : Int)] w fun e w' => e = .returned (.string ⟨(dec n).toArray⟩) ∧ w = w' := by
  by_cases h1 : n < 10
  · go_enter Tryd.func90, Tryd.ntmps90
    go_wp2
    go_ret
    exact ⟨congrArg Ending.returned (congrArg Value.string (digs1 _ (by decide +kernel) n h1)), rfl⟩
  · go_enter Tryd.func90, Tryd.ntmps90
    go_wp2
    go_ret
    exact ⟨congrArg Ending.returned (congrArg Value.string (digs2 _ (by decide +kernel) n h (by omega))), rfl⟩

theorem len8_big (n : Nat) (h1 : 100 ≤ n) (h : n < 256) : ∃ m : Nat, 7 ≤ m ∧ m ≤ 8 ∧ Lib.len8 (n : Int) = (m : Int) := by
  have : ∀ k : Fin 256, 100 ≤ k.val → Lib.len8 (k.val : Int) = 7 ∨ Lib.len8 (k.val : Int) = 8 := by decide +kernel
  rcases this ⟨n, h⟩ h1 with e | e
  · exact ⟨7, by decide, by decide, e⟩
  · exact ⟨8, by decide, by decide, e⟩

set_option maxRecDepth 100000 in
set_option maxHeartbeats 1000000 in
theorem len64_any (n : Nat) (h1 : 100 ≤ n) (h : n < 256) (w : World) :
    Calls Tryd.prog 97 #[.int .u64 (n : Int)] w fun e w' => ∃ m : Nat, 7 ≤ m ∧ m ≤ 8 ∧ e = .returned (.int .i64 (m : Int)) ∧ w = w' := by
  obtain ⟨m, m1, m2, hm⟩ := len8_big n h1 h
  have t1 : decide ((4294967296 : Int) ≤ (n : Int)) = false := by simp; omega
  have t2 : decide ((65536 : Int) ≤ (n : Int)) = false := by simp; omega
  have t3 : decide ((256 : Int) ≤ (n : Int)) = false := by simp; omega
  go_enter Tryd.func97, Tryd.ntmps97
  go_name_bytes C hC
  have hC' : C = Lib.len8tab := hC.symm.trans (by kernel_rfl)
  have hix := fun (w : World) => Lib.run_index_len8tab (P := Tryd.prog) w 9 .u8 (n : Int) Tryd.underlying9 (by omega) (by omega)
  rw [← hC', hm] at hix
  clear hC hC' hm
  go_wp2_with fail
  go_ret
  exact ⟨m, m1, m2, rfl, rfl⟩
theorem log10_any (n : Nat) (h1 : 7 ≤ n) (h : n ≤ 8) (w : World) :
    Calls Tryd.prog 96 #[.int .i64 (n : Int)] w fun e w' => e = .returned (.int .i64 2) ∧ w = w' := by
  have H := Lib.hid (show (n : Int) * 78913 / 262144 = 2 by omega)
  go_enter Tryd.func96, Tryd.ntmps96
  go_wp2
  go_ret
  exact ⟨congrArg (fun n => Ending.returned (.int .i64 n)) H.out, rfl⟩
theorem bool2_any (w : World) :
    Calls Tryd.prog 98 #[.bool true] w fun e w' => e = .returned (.int .i64 1) ∧ w = w' := by
  go_enter Tryd.func98, Tryd.ntmps98
  go_wp2
  go_ret
  exact ⟨rfl, rfl⟩
/-- the third number of the table -/
def P10 (w : World) : Prop := w.cell? ⟨5, 2, none⟩ = some (.int .u64 100) ∧ 5 < w.heap.size
theorem P10.below {w w' : World} (h : P10 w) (hb : Below w.heap.size w w') : P10 w' := by
  obtain ⟨h1, h2⟩ := h
  have hs := hb.size
  exact ⟨(hb.cell (p := ⟨5, 2, none⟩) h2).trans h1, by omega⟩
set_option maxRecDepth 100000 in
theorem numDigits_any (n : Nat) (h1 : 100 ≤ n) (h : n < 256) (w : World) (hp : P10 w) :
    Calls Tryd.prog 91 #[.int .u64 (n : Int)] w fun e w' => e = .returned (.int .i64 3) ∧ w = w' := by
  obtain ⟨hc, hl⟩ := hp
  have t1 : decide ((100 : Int) ≤ (n : Int)) = true := by simp; omega
  go_enter Tryd.func91, Tryd.ntmps91
  go_wp2_with fail
  refine (len64_any n h1 h _).mono ?_
  rintro e w1 ⟨m, m1, m2, rfl, rfl⟩
  go_wp2_with fail
  refine (log10_any m m1 m2 _).mono ?_
  rintro e w1 ⟨rfl, rfl⟩
  go_wp2_with fail
  refine (bool2_any _).mono ?_
  rintro e w1 ⟨rfl, rfl⟩
  go_wp2
  go_ret
  exact ⟨rfl, rfl⟩
end Go.Proofs.YtjepkkfpgmgnjaaDoor
