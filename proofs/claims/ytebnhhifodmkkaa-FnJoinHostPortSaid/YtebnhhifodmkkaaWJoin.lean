/-
  The walk of the statement FnJoinHostPort: it returns true and changes nothing that was there.
-/
import Derived.Test.YtebnhhifodmkkaaHost
namespace Go.Proofs.Ytebnhhifodmkkaa
open Go.RowKit

theorem join_le (h p : List UInt8) : (join h p).length ≤ h.length + p.length + 3 := by
  unfold join; split <;> simp <;> omega

set_option maxHeartbeats 400000 in
theorem walkl_FnJoinHostPort (h p : List UInt8) (w : World) (hh : h.length ≤ 140737488351232) (hp : p.length ≤ 140737488351232) :
    Calls Try.prog 3 #[.string ⟨h.toArray⟩, .string ⟨p.toArray⟩] w fun e w' => e = .returned (.bool true) ∧ Below w.heap.size w w' := by
  go_enter Try.func3, Try.ntmps3
  go_wp2_with fail
  refine (implJoin_any h p _ hh hp).mono ?_
  rintro e w1 ⟨rfl, rfl⟩
  go_wp2_with fail
  refine (specJoin_any h p _ hh hp).mono ?_
  rintro e w2 ⟨rfl, k2, rfl⟩
  generalize join h p = j
  go_wp2
  go_ret
  exact ⟨ret_bool (by simp), below_drewN (Below.refl _ _) _⟩

theorem walk_FnJoinHostPort (s t : ByteArray) (w : World) (hh : s.size ≤ 140737488351232) (hp : t.size ≤ 140737488351232) :
    Calls Try.prog 3 #[.string s, .string t] w fun e w' => e = .returned (.bool true) ∧ Below w.heap.size w w' :=
  walkl_FnJoinHostPort s.data.toList t.data.toList w (by simpa using hh) (by simpa using hp)
end Go.Proofs.Ytebnhhifodmkkaa
