/-
  Contracts of the small functions that nearly every statement of this seat reaches: Same, plain, Bytes, mapped, isZeros, To4. No condition but that a slice's length is at most 2^63 - 1 (appends: 2^47 bytes).
-/
import Derived.Test.YtjepkkfpgmgnjaaDoorKit
namespace Go.Proofs.YtjepkkfpgmgnjaaDoor
open Go.RowKit

theorem eq_of_same {xs ys : List UInt8} (hl : xs.length = ys.length) (h : ∀ j (h1 : j < xs.length) (h2 : j < ys.length), xs[j] = ys[j]) : xs = ys :=
  List.ext_getElem hl fun j h1 h2 => h j h1 h2
theorem same_true {xs ys : List UInt8} (h : xs = ys) : Ending.returned (.bool true) = .returned (.bool (eqb xs ys)) := by rw [eqb_true h]
theorem same_false {xs ys : List UInt8} (h : xs ≠ ys) : Ending.returned (.bool false) = .returned (.bool (eqb xs ys)) := by rw [eqb_false h]
theorem ne_of_at {xs ys : List UInt8} {k : Nat} {h1 : k < xs.length} {h2 : k < ys.length} (h : (xs[k].toNat : Int) ≠ (ys[k].toNat : Int)) : xs ≠ ys := by
  intro e; subst e; exact h rfl

set_option maxHeartbeats 400000 in
theorem same_any (A B : Option Addr) (n m c d : Nat) (xs ys : List UInt8) (w : World) (hn : xs.length = n) (hm : ys.length = m) (ha : Rd w A xs) (hb : Rd w B ys) (hs : n ≤ 9223372036854775807) (r : Bool) (hr : eqb xs ys = r) :
    Calls Tryd.prog 23 #[.slice A n c, .slice B m d] w fun e w' => e = .returned (.bool r) ∧ ∃ k, w' = w.drewN k := by
  subst hn hm hr
  by_cases hl : xs.length = ys.length
  · have HL := Lib.hid hl
    have hle : xs.length ≤ ys.length := by omega
    have hne : ((xs.length : Int) != (ys.length : Int)) = false := by simp [hl]
    clear hl
    go_enter Tryd.func23, Tryd.ntmps23
    go_wp2
    go_loopw [13] (fun i wr => ∃ k r : Nat, k ≤ xs.length ∧ i = .int .i64 k ∧ wr = w.drewN r ∧ Hid (∀ j (h1 : j < xs.length) (h2 : j < ys.length), j < k → xs[j] = ys[j])) (fun i _ => xs.length - (intOf i).toNat)
    case atStart => exact ⟨0, 0, Nat.zero_le _, rfl, rfl, fun j _ _ h => absurd h (by omega)⟩
    case round =>
      obtain ⟨k, r, hk, rfl, rfl, HS⟩ := hrel
      by_cases hlt : k < xs.length
      · obtain ⟨b, off, rfl, _, hc⟩ := ha.at_ hlt
        obtain ⟨b2, off2, rfl, _, hc2⟩ := hb.at_ (k := k) (by omega)
        have h1 := hc k hlt
        have h2 := hc2 k (by omega)
        clear hc hc2
        have hlt2 : k < ys.length := by omega
        go_wp2
        go_quiet (fail)
        go_wp2
        · go_ret
          have hd : ((xs[k].toNat : Int) != (ys[k].toNat : Int)) = true := by assumption
          exact ⟨same_false (ne_of_at (by simpa using hd)), r + nq, by rw [World.drewN_drewN]⟩
        · go_roundw
          case rel =>
            have hd : ((xs[k].toNat : Int) != (ys[k].toNat : Int)) = false := by assumption
            refine ⟨k + 1, _, by omega, by go_num, rfl, fun j a1 a2 hj => ?_⟩
            rcases Nat.lt_or_ge j k with hjk | hjk
            · exact HS.out j a1 a2 hjk
            · obtain rfl : j = k := by omega
              exact UInt8.toNat_inj.mp (Int.ofNat_inj.mp (by simpa using hd))
          case measure => simp [intOf]; omega
      · go_wp2
        go_ret
        refine ⟨same_true (eq_of_same HL.out fun j h1 h2 => HS.out j h1 h2 (by omega)), _, rfl⟩
  · have hne : ((xs.length : Int) != (ys.length : Int)) = true := by simp; omega
    go_enter Tryd.func23, Tryd.ntmps23
    go_wp2
    go_ret
    exact ⟨same_false (fun e => hl (by rw [e])), 0, rfl⟩

set_option maxHeartbeats 400000 in
theorem plain_any (A : Option Addr) (n c : Nat) (xs : List UInt8) (w : World) (hn : xs.length = n) (ha : Rd w A xs) (hs : n ≤ 140737488355328) :
    Calls Tryd.prog 33 #[.slice A n c] w fun e w' => OwnBack 5 w xs e w' := by
  subst hn
  go_enter Tryd.func33, Tryd.ntmps33
  go_wp2_with (at_builtin; refine wpList_app rfl _ _ 22 rfl w.heap.size 5 Tryd.underlying22 info8 (.slice none 0 0) [] xs.length rfl (World.ownsRow_nil _ _ _ _) A _ c xs rfl rfl ha ?h1 ?h2 (Nat.le_refl _) ?_)
  case h1 => simp
  case h2 => simpa using hs
  intro A' c' w' hown hg hat
  go_wp2
  go_ret
  exact ⟨A', _, c', rfl, rfl, by simpa using hown, (Below.refl _ _).grown hg (Nat.le_refl _) (by simp [Value.ownBlock])⟩
end Go.Proofs.YtjepkkfpgmgnjaaDoor
