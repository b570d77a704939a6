/-
  Contract of spec.To16: the address in 16 bytes, in new memory, or none. No condition.
-/
import Derived.Test.YtkmjejgeeghjmaaDoorBytes
namespace Go.Proofs.YtkmjejgeeghjmaaDoor
open Go.RowKit

set_option maxHeartbeats 400000 in
theorem specTo16_four (A : Option Addr) (c : Nat) (xs : List UInt8) (w : World) (hn : xs.length = 4) (ha : Rd w A xs) :
    Calls Tryd.prog 10 #[.slice A 4 c] w fun e w' => OwnOpt 5 w (to16 xs) e w' := by
  have HN := Lib.hid hn
  clear hn
  go_enter Tryd.func10, Tryd.ntmps10
  go_wp2_with fail
  refine (mapped_any _).mono ?_
  rintro e w1 ⟨A1, n1, c1, rfl, hn1, hown1, hb1⟩
  obtain rfl : n1 = 12 := hn1.symm
  clear hn1
  go_wp2_with (at_builtin; refine wpList_app rfl _ _ 22 rfl w.heap.size 5 Tryd.underlying22 info8 _ mp 16 rfl hown1 A 4 c xs rfl HN.out (ha.below hb1) rfl (by decide) hb1.size ?_)
  intro A2 c2 w2 hown2 hg2 hat2
  have hb2 : Below w.heap.size w w2 := hb1.grown hg2 hb1.size fun k hk => (hown1.lt k hk).1
  go_wp2
  go_ret2
  exact OwnOpt.some_ (w1 := w) (to16_four HN.out) (by simp [HN.out, mp]) (by simpa using hown2) hb2 (Below.refl _ _)

set_option maxHeartbeats 400000 in
theorem specTo16_six (A : Option Addr) (c : Nat) (xs : List UInt8) (w : World) (hn : xs.length = 16) (ha : Rd w A xs) :
    Calls Tryd.prog 10 #[.slice A 16 c] w fun e w' => OwnOpt 5 w (to16 xs) e w' := by
  have HN := Lib.hid hn
  clear hn
  go_enter Tryd.func10, Tryd.ntmps10
  go_wp2_with fail
  refine (bytes_any _ _ _ xs _ HN.out (by exact ha) (by decide)).mono ?_
  rintro e w1 ⟨A1, n1, c1, rfl, hn1, hown1, hb1⟩
  have HN1 := Lib.hid hn1
  clear hn1
  go_wp2
  go_ret2
  exact OwnOpt.some_ (to16_six HN.out) HN1.out hown1 hb1 (Below.refl _ _)

theorem specTo16_other (A : Option Addr) (n c : Nat) (xs : List UInt8) (w : World) (hn : xs.length = n) (h4 : n ≠ 4) (h16 : n ≠ 16) :
    Calls Tryd.prog 10 #[.slice A n c] w fun e w' => OwnOpt 5 w (to16 xs) e w' := by
  have HT := Lib.hid (to16_other (xs := xs) (by omega) (by omega))
  have e4 : ((n : Int) == 4) = false := by simp; omega
  have e16 : ((n : Int) == 16) = false := by simp; omega
  clear h4 h16 hn
  go_enter Tryd.func10, Tryd.ntmps10
  go_wp2
  go_ret2
  exact OwnOpt.none_ HT.out (Below.refl _ _)

theorem specTo16_any (A : Option Addr) (n c : Nat) (xs : List UInt8) (w : World) (hn : xs.length = n) (ha : Rd w A xs) :
    Calls Tryd.prog 10 #[.slice A n c] w fun e w' => OwnOpt 5 w (to16 xs) e w' := by
  by_cases h4 : n = 4
  · subst h4; exact specTo16_four A c xs w hn ha
  · by_cases h16 : n = 16
    · subst h16; exact specTo16_six A c xs w hn ha
    · exact specTo16_other A n c xs w hn h4 h16
end Go.Proofs.YtkmjejgeeghjmaaDoor
