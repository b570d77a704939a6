/-
  Contract of spec.Mixed: it returns a bool, and nothing that was there has changed. No condition.
-/
import Derived.Test.YtjepkkfpgmgnjaaDoorBytes
import Derived.Deep.RegionHeld3
namespace Go.Proofs.YtjepkkfpgmgnjaaDoor
open Go.RowKit
set_option linter.unusedVariables false

set_option maxHeartbeats 400000 in
theorem mixed_other (A : Option Addr) (n c : Nat) (w : World) (h16 : n ≠ 16) :
    Calls Tryd.prog 14 #[.slice A n c] w fun e w' => e = .returned (.bool false) ∧ Below w.heap.size w w' := by
  have e16 : ((n : Int) == 16) = false := by simp; omega
  clear h16
  go_enter Tryd.func14, Tryd.ntmps14
  go_wp2_with fail
  go_quiet (fail)
  go_wp2
  go_ret
  exact ⟨rfl, below_drewN (Below.refl _ _) _⟩

def nat64 : List UInt8 := [0, 100, 255, 155, 0, 0, 0, 0, 0, 0, 0, 0]
set_option maxRecDepth 100000 in
set_option maxHeartbeats 1000000 in
theorem mixed_six (A : Option Addr) (c : Nat) (xs : List UInt8) (w : World) (hn : xs.length = 16) (hc : 16 ≤ c) (ha : Rd w A xs) :
    Calls Tryd.prog 14 #[.slice A 16 c] w fun e w' => (∃ r, e = .returned (.bool r)) ∧ Below w.heap.size w w' := by
  have HN := Lib.hid hn
  obtain ⟨b, off, rfl, _⟩ := ha.at_ (k := 0) (by omega)
  have H12 := Lib.hid (show (xs.take 12).length = 12 by simp [hn])
  have hc1 : (12 : Int) ≤ (c : Int) := by omega
  have hmk : ∀ w : World, (Instr.makeSlice 22 (.int .i64 12) (.int .i64 12)).run Tryd.prog w = .ok (.slice (some ⟨w.heap.size, 0, none⟩) 12 12) (w.alloc (.cells #[.int .u8 0, .int .u8 0, .int .u8 0, .int .u8 0, .int .u8 0, .int .u8 0, .int .u8 0, .int .u8 0, .int .u8 0, .int .u8 0, .int .u8 0, .int .u8 0] 5)) := fun _ => by kernel_rfl
  clear hn
  by_cases hm : xs.take 12 = List.replicate 12 0
  · have HD := Lib.hid (eqb_true hm)
    clear hm
    go_enter Tryd.func14, Tryd.ntmps14
    go_wp2_with fail
    first
      | (go_region_with ((first
        | (go_at_call 23; refine (same_any _ _ _ _ _ _ (xs.take 12) (List.replicate 12 0) _ H12.out rfl ((ha.cut0 12).drew.alloc _) (Rd.new w.drew _ _ _ rfl) (by decide) true HD.out).mono ?_; rintro e w2 ⟨rfl, k2, rfl⟩))))
      | fail
    all_goals
      go_wp2
      go_ret
      exact ⟨⟨_, rfl⟩, below_drewN ((Below.refl _ _).alloc (Nat.le_refl _) _) _⟩
  · have HD := Lib.hid (eqb_false hm)
    clear hm
    have hrd2 : ∀ k, Rd (((w.alloc (.cells #[.int .u8 0, .int .u8 0, .int .u8 0, .int .u8 0, .int .u8 0, .int .u8 0, .int .u8 0, .int .u8 0, .int .u8 0, .int .u8 0, .int .u8 0, .int .u8 0] 5)).alloc (.cells #[.int .u8 0, .int .u8 100, .int .u8 255, .int .u8 155, .int .u8 0, .int .u8 0, .int .u8 0, .int .u8 0, .int .u8 0, .int .u8 0, .int .u8 0, .int .u8 0] 5)).drewN k) (some ⟨w.heap.size + 1, 0, none⟩) nat64 := fun k => (Rd.newAt nat64 (by simp) rfl).drewN k
    have hb2 : ∀ k, Below w.heap.size w (((w.alloc (.cells #[.int .u8 0, .int .u8 0, .int .u8 0, .int .u8 0, .int .u8 0, .int .u8 0, .int .u8 0, .int .u8 0, .int .u8 0, .int .u8 0, .int .u8 0, .int .u8 0] 5)).alloc (.cells #[.int .u8 0, .int .u8 100, .int .u8 255, .int .u8 155, .int .u8 0, .int .u8 0, .int .u8 0, .int .u8 0, .int .u8 0, .int .u8 0, .int .u8 0, .int .u8 0] 5)).drewN k) := fun k => below_drewN (((Below.refl _ _).alloc (Nat.le_refl _) _).alloc (by simp) _) _
    have HR2 := Lib.hid hrd2
    have HB2 := Lib.hid hb2
    clear hrd2 hb2
    go_enter Tryd.func14, Tryd.ntmps14
    go_wp2_with fail
    have tok1 : True := trivial
    go_region_held3 (fun _ => True) (trivial) ((first
        | (go_at_call 23; have _t := tok1; refine (same_any _ _ _ _ _ _ (xs.take 12) (List.replicate 12 0) _ H12.out rfl ((ha.cut0 12).drew.alloc _) (Rd.new w.drew _ _ _ rfl) (by decide) false HD.out).mono ?_; rintro e w2 ⟨rfl, k2, rfl⟩; clear tok1 _t)
        | (go_at_call 30; refine (bytes_any _ _ _ nat64 _ rfl (HR2.out _) (by decide)).mono ?_; rintro e w3 ⟨A3, n3, c3, rfl, hn3, ho3, hb3⟩; have HN3 := Lib.hid hn3; clear hn3; have hb4 := (HB2.out _).trans (hb3.mono (HB2.out _).size))
        | (go_at_call 23; refine (same_any _ _ _ _ _ _ (xs.take 12) nat64 _ H12.out HN3.out ((ha.cut0 12).below hb4) (Rd.of_own ho3) (by decide) _ rfl).mono ?_; rintro e w4 ⟨rfl, k4, rfl⟩)))
    go_wp2
    go_ret
    exact ⟨⟨_, rfl⟩, below_drewN hb4 _⟩

theorem mixed_any (A : Option Addr) (n c : Nat) (xs : List UInt8) (w : World) (hn : xs.length = n) (hc : n ≤ c) (ha : Rd w A xs) :
    Calls Tryd.prog 14 #[.slice A n c] w fun e w' => (∃ r, e = .returned (.bool r)) ∧ Below w.heap.size w w' := by
  by_cases h : n = 16
  · subst h; exact mixed_six A c xs w hn hc ha
  · exact (mixed_other A n c w h).mono fun e w' ⟨he, hb⟩ => ⟨⟨_, he⟩, hb⟩
end Go.Proofs.YtjepkkfpgmgnjaaDoor
