/-
  Contract of impl.To4: the IPv4 address in 4 bytes, in new memory, or none. No condition but the length's (2^47).
-/
import Derived.Test.YtebnhhifodmkkaaDoorTo4
namespace Go.Proofs.YtebnhhifodmkkaaDoor
open Go.RowKit

set_option maxHeartbeats 400000 in
theorem implTo4_any (A : Option Addr) (n c : Nat) (xs : List UInt8) (w : World) (hn : xs.length = n) (hs : n ≤ 140737488351232) (ha : Rd w A xs) :
    Calls Tryd.prog 16 #[.slice A n c] w fun e w' => OwnOpt 5 w (to4 xs) e w' := by
  have HN := Lib.hid hn
  clear hn
  have hneq := fun (w : World) (a : Option Addr) (n c : Nat) => run_neq_slice_nil_any (P := Tryd.prog) w 32 5 a n c 0 0 Tryd.underlying32
  go_enter Tryd.func16, Tryd.ntmps16
  go_wp2_with fail
  refine (plain_any _ _ _ xs _ HN.out (by exact ha) (by omega)).mono ?_
  rintro e w1 ⟨A1, n1, c1, rfl, hn1, hown1, hb1⟩
  have HN1 := Lib.hid hn1
  clear hn1
  go_wp2_with fail
  refine (netTo4_any _ _ _ xs _ HN1.out (by exact own_cap hown1) (by exact Rd.of_own hown1)).mono ?_
  rintro e w2 ⟨A2, n2, c2, rfl, hn2, hc2, hr2, hnil2, rfl⟩
  have HN2 := Lib.hid hn2
  have HNIL := Lib.hid hnil2
  clear hn2 hnil2
  have hle : n2 ≤ 140737488351232 := by
    have h1 := HN2.out; have h2 := HN.out
    rw [← h1]; refine Nat.le_trans (to4_le xs) (by omega)
  go_wp2_with fail
  refine (plain_any _ _ _ ((to4 xs).getD []) _ HN2.out (by exact hr2) (by omega)).mono ?_
  rintro e w3 ⟨A3, n3, c3, rfl, hn3, hown3, hb3⟩
  have HN3 := Lib.hid hn3
  clear hn3
  go_wp2
  go_ret2
  exact ⟨A3, n3, c3, tup2 HNIL.out, HN3.out, own_mono hown3 hb1.size, hb1.trans (hb3.mono hb1.size)⟩
end Go.Proofs.YtebnhhifodmkkaaDoor
