/-
  Contracts of spec.Bytes and spec.mapped: a copy of bytes; the twelve bytes before an IPv4-mapped address. No condition but the length's (2^47).
-/
import Derived.Test.YtjepkkfpgmgnjaaDoorBase
namespace Go.Proofs.YtjepkkfpgmgnjaaDoor
open Go.RowKit

set_option maxHeartbeats 400000 in
theorem bytes_any (A : Option Addr) (n c : Nat) (xs : List UInt8) (w : World) (hn : xs.length = n) (ha : Rd w A xs) (hs : n ≤ 140737488355328) :
    Calls Tryd.prog 30 #[.slice A n c] w fun e w' => OwnBack 5 w xs e w' := by
  subst hn
  go_enter Tryd.func30, Tryd.ntmps30
  go_wp2_with (at_builtin; refine wpList_app rfl _ _ 22 rfl w.heap.size 5 Tryd.underlying22 info8 (.slice none 0 0) [] xs.length rfl (World.ownsRow_nil _ _ _ _) A _ c xs rfl rfl ha ?h1 ?h2 (Nat.le_refl _) ?_)
  case h1 => simp
  case h2 => simpa using hs
  intro A' c' w' hown hg hat
  go_wp2
  go_ret
  exact ⟨A', _, c', rfl, rfl, by simpa using hown, (Below.refl _ _).grown hg (Nat.le_refl _) (by simp [Value.ownBlock])⟩

theorem mapped_any (w : World) : Calls Tryd.prog 31 #[] w fun e w' => OwnBack 5 w mp e w' := by
  go_enter Tryd.func31, Tryd.ntmps31
  go_wp2_with fail
  refine (bytes_any _ _ _ mp _ rfl (Rd.new _ _ _ mp rfl) (by decide)).mono ?_
  rintro e w1 ⟨A, n, c, rfl, hn, hown, hb⟩
  go_wp2
  go_ret
  exact OwnBack.lift (w1 := w.alloc _) ⟨A, n, c, rfl, hn, hown, hb⟩ ((Below.refl _ _).alloc (Nat.le_refl _) _)
end Go.Proofs.YtjepkkfpgmgnjaaDoor
