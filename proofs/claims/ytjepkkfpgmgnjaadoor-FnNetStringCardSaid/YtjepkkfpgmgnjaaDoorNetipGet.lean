/-
  Contracts of (netip.Addr).v4, (*netip.uint128).halves and (netip.Addr).v6u16: a byte, and a group, of an address by its halves. No condition.
-/
import Derived.Test.YtjepkkfpgmgnjaaDoorAppTo
namespace Go.Proofs.YtjepkkfpgmgnjaaDoor
open Go.RowKit
set_option linter.unusedVariables false

set_option maxHeartbeats 1000000 in
theorem v4_any (hi lo : Nat) (z : Option Addr) (i : Nat) (w : World) (hi4 : i < 4) (hl : lo < 18446744073709551616) :
    Calls Tryd.prog 85 #[addrV hi lo z, .int .u8 (i : Int)] w fun e w' => e = .returned (.int .u8 ((lo / 256 ^ (3 - i) % 256 : Nat) : Int)) ∧ Below w.heap.size w w' := by
  unfold addrV
  match i, hi4 with
  | 0, _ | 1, _ | 2, _ | 3, _ =>
    go_enter Tryd.func85, Tryd.ntmps85
    go_wp2
    go_ret
    exact ⟨by simp, (Below.refl _ _).alloc (Nat.le_refl _) _⟩

set_option maxHeartbeats 1000000 in
theorem halves_any (B : Nat) (w : World) :
    Calls Tryd.prog 95 #[.pointer (some ⟨B, 0, none⟩)] w fun e w' => e = .returned (.agg #[.pointer (some ⟨B, 0, none⟩), .pointer (some ⟨B, 1, none⟩)]) ∧ Below w.heap.size w w' := by
  go_enter Tryd.func95, Tryd.ntmps95
  go_wp2
  go_region
  go_wp2
  go_returns
  exact ⟨rfl, by go_grown⟩

theorem u16wrap (x : Int) : IntKind.u16.wrap x = x % 65536 := by simp [IntKind.wrap, IntKind.signed, IntKind.bits]

set_option maxRecDepth 100000 in
set_option maxHeartbeats 4000000 in
theorem v6u16_any (hi lo : Nat) (z : Option Addr) (i : Nat) (w : World) (hi8 : i < 8) (hh : hi < 18446744073709551616) (hl : lo < 18446744073709551616) :
    Calls Tryd.prog 87 #[addrV hi lo z, .int .u8 (i : Int)] w fun e w' => e = .returned (.int .u16 (((if i < 4 then hi else lo) / 65536 ^ (3 - i % 4) % 65536 : Nat) : Int)) ∧ Below w.heap.size w w' := by
  unfold addrV
  match i, hi8 with
  | 0, _ | 1, _ | 2, _ | 3, _ | 4, _ | 5, _ | 6, _ | 7, _ =>
    have x0 : ∀ (a b : Value) (w : World), (Instr.index 111 (.agg #[a, b]) (.int .u8 0)).run Tryd.prog w = .ok a w := fun _ _ _ => by kernel_rfl
    have x1 : ∀ (a b : Value) (w : World), (Instr.index 111 (.agg #[a, b]) (.int .u8 1)).run Tryd.prog w = .ok b w := fun _ _ _ => by kernel_rfl
    go_enter Tryd.func87, Tryd.ntmps87
    go_wp2_with fail
    refine (halves_any w.heap.size _).mono ?_
    rintro e w1 ⟨rfl, hb1⟩
    have c0 := (hb1.cell (p := ⟨w.heap.size, 0, none⟩) (by simp))
    have c1 := (hb1.cell (p := ⟨w.heap.size, 1, none⟩) (by simp))
    simp at c0 c1
    go_wp2
    go_ret
    exact ⟨by simp <;> first | omega | (rw [u16wrap]) , ((Below.refl _ _).alloc (Nat.le_refl _) _).trans (hb1.mono (by simp))⟩
end Go.Proofs.YtjepkkfpgmgnjaaDoor
