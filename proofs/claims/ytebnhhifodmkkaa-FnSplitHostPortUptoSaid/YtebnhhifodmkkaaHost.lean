/-
  Contracts of JoinHostPort and of spec.Join: host, colon, port; brackets around a host that has a colon. Condition: the strings' lengths (2^47).
-/
import Derived.Test.YtebnhhifodmkkaaKit
import Derived.Lib.Bytealg
namespace Go.Proofs.Ytebnhhifodmkkaa
open Go.RowKit

/-- internal/bytealg.IndexByteString (the model stands in for it): the place of the first such byte, or -1 -/
theorem idx_run (l : List UInt8) (c : UInt8) (w : World) : (callFunc 41 #[.string ⟨l.toArray⟩, .int .u8 (c.toNat : Int)]).run Try.prog w = .ok (.value (.int .i64 (Lib.indexByte l c))) w := by
  rw [run_callFunc_extern Try.func41 (by kernel_rfl) (by kernel_rfl) (by kernel_rfl) (e := Extern.BytealgIndexByte.indexByte) (by kernel_rfl), Lib.run_indexByteString]
  simp

theorem ix_none {l : List UInt8} {c : UInt8} (h : c ∉ l) : Lib.indexByte l c = -1 := by
  induction l with
  | nil => rfl
  | cons b l ih =>
    simp only [List.mem_cons, not_or] at h
    unfold Lib.indexByte
    rw [if_neg (by simpa using fun e => h.1 e.symm), ih h.2]
    rfl
theorem ix_some {l : List UInt8} {c : UInt8} (h : c ∈ l) : ∃ k, Lib.indexByte l c = ((k : Nat) : Int) ∧ ∃ hk : k < l.length, l[k] = c ∧ ∀ j (hj : j < k), l[j]'(by omega) ≠ c := by
  induction l with
  | nil => cases h
  | cons b l ih =>
    unfold Lib.indexByte
    by_cases hb : b = c
    · exact ⟨0, by rw [if_pos (by simpa using hb)]; rfl, by simp, by simpa using hb, fun j hj => absurd hj (by omega)⟩
    · have h' : c ∈ l := by
        rcases List.mem_cons.mp h with e | e
        · exact absurd e.symm hb
        · exact e
      obtain ⟨k, hk, hlt, he, hn⟩ := ih h'
      refine ⟨k + 1, ?_, by simp; omega, by simpa using he, fun j hj => ?_⟩
      · rw [if_neg (by simpa using hb), hk, if_neg (by simp only [beq_iff_eq]; omega)]; rfl
      · rcases j with _ | j
        · simpa using hb
        · simpa using hn j (by omega)

/-- host, colon, port; a host that has a colon stands in brackets -/
def join (h p : List UInt8) : List UInt8 := if 58 ∈ h then 91 :: (h ++ 93 :: 58 :: p) else h ++ 58 :: p

theorem ret_string {a b : List UInt8} (h : a = b) : Ending.returned (.string ⟨a.toArray⟩) = .returned (.string ⟨b.toArray⟩) := by rw [h]

set_option maxHeartbeats 400000 in
theorem netJoin_any (h p : List UInt8) (w : World) (hh : h.length ≤ 140737488351232) (hp : p.length ≤ 140737488351232) :
    Calls Try.prog 27 #[.string ⟨h.toArray⟩, .string ⟨p.toArray⟩] w fun e w' => e = .returned (.string ⟨(join h p).toArray⟩) ∧ w' = w := by
  have hix : ∀ w : World, (callFunc 41 #[.string ⟨h.toArray⟩, .int .u8 58]).run Try.prog w = .ok (.value (.int .i64 (Lib.indexByte h 58))) w := fun w => idx_run h 58 w
  by_cases hc : 58 ∈ h
  · obtain ⟨k, hk, _⟩ := ix_some hc
    have HJ := Lib.hid (show join h p = 91 :: (h ++ 93 :: 58 :: p) by simp [join, hc])
    rw [hk] at hix
    have hge : decide ((0 : Int) ≤ (k : Int)) = true := by simp
    clear hk hc
    go_enter Try.func27, Try.ntmps27
    go_wp2
    go_ret
    refine ⟨?_, rfl⟩
    rw [HJ.out]
    simp [ba_app]
  · have HJ := Lib.hid (show join h p = h ++ 58 :: p by simp [join, hc])
    rw [ix_none hc] at hix
    clear hc
    go_enter Try.func27, Try.ntmps27
    go_wp2
    go_ret
    refine ⟨?_, rfl⟩
    rw [HJ.out]
    simp [ba_app]

/-- impl.JoinHostPort -/
theorem implJoin_any (h p : List UInt8) (w : World) (hh : h.length ≤ 140737488351232) (hp : p.length ≤ 140737488351232) :
    Calls Try.prog 10 #[.string ⟨h.toArray⟩, .string ⟨p.toArray⟩] w fun e w' => e = .returned (.string ⟨(join h p).toArray⟩) ∧ w' = w := by
  go_enter Try.func10, Try.ntmps10
  go_wp2_with fail
  refine (netJoin_any h p _ hh hp).mono ?_
  rintro e w1 ⟨rfl, rfl⟩
  go_wp2
  go_ret
  exact ⟨rfl, rfl⟩

/-- has one of some bytes -/
def hasb (s l : List UInt8) : Bool := s.any fun x => l.contains x
theorem hasb_true {s l : List UInt8} {k j : Nat} (hk : k < s.length) (hj : j < l.length) (h : s[k] = l[j]) : hasb s l = true := by
  simp only [hasb, List.any_eq_true]
  exact ⟨s[k], List.getElem_mem hk, by rw [h]; simp⟩
theorem hasb_false {s l : List UInt8} (h : ∀ k (hk : k < s.length) j (hj : j < l.length), s[k] ≠ l[j]) : hasb s l = false := by
  rw [hasb, List.any_eq_false]
  intro x hx hc
  obtain ⟨k, hk, rfl⟩ := List.getElem_of_mem hx
  have hc' : s[k] ∈ l := by simpa using hc
  obtain ⟨j, hj, e⟩ := List.getElem_of_mem hc'
  exact h k hk j hj e.symm

set_option maxHeartbeats 1000000 in
theorem has_any (s l : List UInt8) (w : World) (hs : s.length ≤ 281474976710656) (hl : l.length ≤ 281474976710656) (r : Bool) (hr : hasb s l = r) :
    Calls Try.prog 28 #[.string ⟨s.toArray⟩, .string ⟨l.toArray⟩] w fun e w' => e = .returned (.bool r) ∧ ∃ k, w' = w.drewN k := by
  subst hr
  go_enter Try.func28, Try.ntmps28
  go_wp2
  go_loopw [5] (fun i wr => ∃ k r : Nat, k ≤ s.length ∧ i = .int .i64 k ∧ wr = w.drewN r ∧ Hid (∀ a (h1 : a < s.length) b (h2 : b < l.length), a < k → s[a] ≠ l[b])) (fun i _ => s.length - (intOf i).toNat)
  case atStart => exact ⟨0, 0, Nat.zero_le _, rfl, rfl, fun a _ b _ h => absurd h (by omega)⟩
  case round =>
    obtain ⟨k, r, hk, rfl, rfl, HS⟩ := hrel
    by_cases hlt : k < s.length
    · go_wp2
      go_loopw [6] (fun i wr => ∃ j r : Nat, j ≤ l.length ∧ i = .int .i64 j ∧ wr = w.drewN r ∧ Hid (∀ b (h2 : b < l.length), b < j → s[k] ≠ l[b])) (fun i _ => l.length - (intOf i).toNat)
      case atStart => exact ⟨0, r, Nat.zero_le _, rfl, rfl, fun b _ h => absurd h (by omega)⟩
      case round =>
        obtain ⟨j, r2, hj, rfl, rfl, HI⟩ := hrel
        by_cases hjl : j < l.length
        · go_wp2
          go_quiet (fail)
          go_wp2
          · go_ret
            have hd : ((s[k].toNat : Int) == (l[j].toNat : Int)) = true := by assumption
            exact ⟨ret_bool (hasb_true hlt hjl (UInt8.toNat_inj.mp (Int.ofNat_inj.mp (by simpa using hd)))).symm, r2 + nq, by rw [World.drewN_drewN]⟩
          · go_roundw
            case rel =>
              have hd : ((s[k].toNat : Int) == (l[j].toNat : Int)) = false := by assumption
              refine ⟨j + 1, _, by omega, by go_num, rfl, fun b hb hbj => ?_⟩
              rcases Nat.lt_or_ge b j with h | h
              · exact HI.out b hb h
              · obtain rfl : b = j := by omega
                intro e
                rw [e] at hd
                simp at hd
            case measure => simp [intOf]; omega
        · go_wp2
          go_roundw
          case rel =>
            refine ⟨k + 1, _, by omega, by go_num, rfl, fun a ha b hb hak => ?_⟩
            rcases Nat.lt_or_ge a k with h | h
            · exact HS.out a ha b hb h
            · obtain rfl : a = k := by omega
              exact HI.out b hb (by omega)
          case measure => simp [intOf]; omega
    · go_wp2
      go_ret
      exact ⟨ret_bool (hasb_false fun a ha b hb => HS.out a ha b hb (by omega)).symm, _, rfl⟩

theorem hasb_colon (h : List UInt8) : hasb h [58] = decide (58 ∈ h) := by
  simp only [hasb]
  rw [Bool.eq_iff_iff]
  simp

set_option maxHeartbeats 400000 in
theorem specJoin_any (h p : List UInt8) (w : World) (hh : h.length ≤ 140737488351232) (hp : p.length ≤ 140737488351232) :
    Calls Try.prog 11 #[.string ⟨h.toArray⟩, .string ⟨p.toArray⟩] w fun e w' => e = .returned (.string ⟨(join h p).toArray⟩) ∧ ∃ k, w' = w.drewN k := by
  by_cases hc : 58 ∈ h
  · have HJ := Lib.hid (show join h p = 91 :: (h ++ 93 :: 58 :: p) by simp [join, hc])
    have HB := Lib.hid (show hasb h [58] = true by rw [hasb_colon]; simpa using hc)
    clear hc
    go_enter Try.func11, Try.ntmps11
    go_wp2_with fail
    refine (has_any h [58] _ (by omega) (by decide) true HB.out).mono ?_
    rintro e w1 ⟨rfl, k1, rfl⟩
    go_wp2
    go_ret
    refine ⟨?_, _, rfl⟩
    rw [HJ.out]
    simp [ba_app]
  · have HJ := Lib.hid (show join h p = h ++ 58 :: p by simp [join, hc])
    have HB := Lib.hid (show hasb h [58] = false by rw [hasb_colon]; simpa using hc)
    clear hc
    go_enter Try.func11, Try.ntmps11
    go_wp2_with fail
    refine (has_any h [58] _ (by omega) (by decide) false HB.out).mono ?_
    rintro e w1 ⟨rfl, k1, rfl⟩
    go_wp2
    go_ret
    refine ⟨?_, _, rfl⟩
    rw [HJ.out]
    simp [ba_app]
end Go.Proofs.Ytebnhhifodmkkaa
