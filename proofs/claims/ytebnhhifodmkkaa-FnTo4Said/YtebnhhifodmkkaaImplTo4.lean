/-
  Contract of impl.To4: the IPv4 address in 4 bytes, in new memory, or none. No condition but the length's (2^47).
-/
import Derived.Test.YtebnhhifodmkkaaTo4
namespace Go.Proofs.Ytebnhhifodmkkaa
open Go.RowKit

/-- a row of the call's own has a length that is at most its capacity -/
theorem own_cap {w : World} {base : Nat} {e : TypeId} {A : Option Addr} {n c m : Nat} {xs : List Value} (h : w.ownsRow base e 1 (.slice A n c) m xs) : n ≤ c := by
  rcases h.2 with ⟨h1, _⟩ | ⟨g, cap, cur, h1, _, _, h2, _⟩
  · injection h1 with _ h2 h3; omega
  · injection h1 with _ h3 h4; omega

theorem to4_le (xs : List UInt8) : ((to4 xs).getD []).length ≤ xs.length := by
  unfold to4
  split
  · simp
  · split <;> simp

set_option maxHeartbeats 400000 in
theorem implTo4_any (A : Option Addr) (n c : Nat) (xs : List UInt8) (w : World) (hn : xs.length = n) (hs : n ≤ 140737488351232) (ha : Rd w A xs) :
    Calls Try.prog 17 #[.slice A n c] w fun e w' => OwnOpt 5 w (to4 xs) e w' := by
  have HN := Lib.hid hn
  clear hn
  have hneq := fun (w : World) (a : Option Addr) (n c : Nat) => run_neq_slice_nil_any (P := Try.prog) w 47 5 a n c 0 0 Try.underlying47
  go_enter Try.func17, Try.ntmps17
  go_wp2_with fail
  refine (plain_any _ _ _ xs _ HN.out (by exact ha) (by omega)).mono ?_
  rintro e w1 ⟨A1, n1, c1, rfl, hn1, hown1, hb1⟩
  have HN1 := Lib.hid hn1
  clear hn1
  go_wp2_with fail
  refine (netTo4_any _ _ _ xs _ HN1.out (by exact own_cap hown1) (by exact Rd.of_own hown1)).mono ?_
  rintro e w2 ⟨A2, n2, c2, rfl, hn2, hc2, hr2, hnil2, hz2, rfl⟩
  have HN2 := Lib.hid hn2
  have HZ2 := Lib.hid hz2
  have HNIL := Lib.hid hnil2
  clear hn2 hz2 hnil2
  have hle : n2 ≤ 140737488351232 := by
    have h1 := HN2.out; have h2 := HN.out
    rw [← h1]; refine Nat.le_trans (to4_le xs) (by omega)
  go_wp2_with fail
  refine (plain_any _ _ _ ((to4 xs).getD []) _ HN2.out (by exact hr2) (by omega)).mono ?_
  rintro e w3 ⟨A3, n3, c3, rfl, hn3, hown3, hb3⟩
  have HN3 := Lib.hid hn3
  clear hn3
  go_wp2
  go_ret2
  exact ⟨A3, n3, c3, tup2 HNIL.out, HN3.out, own_mono hown3 hb1.size, hb1.trans (hb3.mono hb1.size)⟩
end Go.Proofs.Ytebnhhifodmkkaa
