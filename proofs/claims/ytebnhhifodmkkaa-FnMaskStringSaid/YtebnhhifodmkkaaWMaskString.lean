/-
  The walk of the statement FnMaskString: it returns true and changes nothing that was there.
-/
import Derived.Test.YtebnhhifodmkkaaHex
namespace Go.Proofs.Ytebnhhifodmkkaa
open Go.RowKit

theorem own_cap8 {w : World} {base : Nat} {e : TypeId} {A : Option Addr} {n c m : Nat} {xs : List Value} (h : w.ownsRow base e 1 (.slice A n c) m xs) : n ≤ c := by
  rcases h.2 with ⟨h1, _⟩ | ⟨g, cap, cur, h1, _, _, h2, _⟩
  · injection h1 with _ h2 h3; omega
  · injection h1 with _ h3 h4; omega

set_option maxHeartbeats 400000 in
theorem implMaskString_any (A : Option Addr) (n c : Nat) (xs : List UInt8) (w : World) (hn : xs.length = n) (ha : Rd w A xs) (hs : n ≤ 140737488351232) (h0 : n ≠ 0) :
    Calls Try.prog 12 #[.slice A n c] w fun e w' => e = .returned (.string ⟨(hex xs).toArray⟩) ∧ Below w.heap.size w w' := by
  have HN := Lib.hid hn
  clear hn
  go_enter Try.func12, Try.ntmps12
  go_wp2_with fail
  refine (plain_any _ _ _ xs _ HN.out (by exact ha) (by omega)).mono ?_
  rintro e w1 ⟨A1, n1, c1, rfl, hn1, hown1, hb1⟩
  have hl1 : n1 ≤ 140737488351232 := by have := HN.out; omega
  have hz1 : n1 ≠ 0 := by have := HN.out; omega
  have HN1 := Lib.hid hn1
  clear hn1
  go_wp2_with fail
  refine (maskString_any _ _ _ xs _ HN1.out (by exact Rd.of_own hown1) hl1 hz1).mono ?_
  rintro e w2 ⟨rfl, hb2⟩
  go_wp2
  go_ret
  exact ⟨rfl, hb1.trans (hb2.mono hb1.size)⟩

set_option maxHeartbeats 400000 in
theorem walk_FnMaskString (A : Option Addr) (n c : Nat) (xs : List UInt8) (w : World) (hn : xs.length = n) (hc : n ≤ c) (hs : c ≤ 140737488351232) (ha : Rd w A xs) :
    Calls Try.prog 4 #[.slice A n c] w fun e w' => e = .returned (.bool true) ∧ Below w.heap.size w w' := by
  have HN := Lib.hid hn
  clear hn
  by_cases h0 : n = 0
  · subst h0
    go_enter Try.func4, Try.ntmps4
    go_wp2
    go_ret
    exact ⟨rfl, Below.refl _ _⟩
  · have hb0 : ((n : Int) == 0) = false := by simp; omega
    go_enter Try.func4, Try.ntmps4
    go_wp2_with fail
    refine (implMaskString_any _ _ _ xs _ HN.out (by exact ha) (by omega) h0).mono ?_
    rintro e w1 ⟨rfl, hb1⟩
    go_wp2_with fail
    refine (specHex_any _ _ _ xs _ HN.out (by exact ha.below hb1) (by omega)).mono ?_
    rintro e w2 ⟨rfl, k2, rfl⟩
    generalize hex xs = j
    go_wp2
    go_ret
    exact ⟨ret_bool (by simp), below_drewN hb1 _⟩
end Go.Proofs.Ytebnhhifodmkkaa
