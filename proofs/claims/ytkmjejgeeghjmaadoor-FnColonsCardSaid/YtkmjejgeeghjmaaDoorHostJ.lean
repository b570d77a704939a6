/-
  Contracts of IndexByteString and JoinHostPort: host, colon, port; brackets around a host that has a colon. Condition: the strings' lengths (2^47).
-/
import Derived.Test.YtkmjejgeeghjmaaDoorKit
import Derived.Lib.Bytealg
namespace Go.Proofs.YtkmjejgeeghjmaaDoor
open Go.RowKit

/-- internal/bytealg.IndexByteString (the model stands in for it): the place of the first such byte, or -1 -/
theorem idx_run (l : List UInt8) (c : UInt8) (w : World) : (callFunc 34 #[.string ⟨l.toArray⟩, .int .u8 (c.toNat : Int)]).run Tryd.prog w = .ok (.value (.int .i64 (Lib.indexByte l c))) w := by
  rw [run_callFunc_extern Tryd.func34 (by kernel_rfl) (by kernel_rfl) (by kernel_rfl) (e := Extern.BytealgIndexByte.indexByte) (by kernel_rfl), Lib.run_indexByteString]
  simp

theorem ix_none {l : List UInt8} {c : UInt8} (h : c ∉ l) : Lib.indexByte l c = -1 := by
  induction l with
  | nil => rfl
  | cons b l ih =>
    simp only [List.mem_cons, not_or] at h
    unfold Lib.indexByte
    rw [if_neg (by simpa using fun e => h.1 e.symm), ih h.2]
    rfl
theorem ix_some {l : List UInt8} {c : UInt8} (h : c ∈ l) : ∃ k, Lib.indexByte l c = ((k : Nat) : Int) ∧ ∃ hk : k < l.length, l[k] = c ∧ ∀ j (hj : j < k), l[j]'(by omega) ≠ c := by
  induction l with
  | nil => cases h
  | cons b l ih =>
    unfold Lib.indexByte
    by_cases hb : b = c
    · exact ⟨0, by rw [if_pos (by simpa using hb)]; rfl, by simp, by simpa using hb, fun j hj => absurd hj (by omega)⟩
    · have h' : c ∈ l := by
        rcases List.mem_cons.mp h with e | e
        · exact absurd e.symm hb
        · exact e
      obtain ⟨k, hk, hlt, he, hn⟩ := ih h'
      refine ⟨k + 1, ?_, by simp; omega, by simpa using he, fun j hj => ?_⟩
      · rw [if_neg (by simpa using hb), hk, if_neg (by simp only [beq_iff_eq]; omega)]; rfl
      · rcases j with _ | j
        · simpa using hb
        · simpa using hn j (by omega)

/-- host, colon, port; a host that has a colon stands in brackets -/
def join (h p : List UInt8) : List UInt8 := if 58 ∈ h then 91 :: (h ++ 93 :: 58 :: p) else h ++ 58 :: p

theorem ret_string {a b : List UInt8} (h : a = b) : Ending.returned (.string ⟨a.toArray⟩) = .returned (.string ⟨b.toArray⟩) := by rw [h]

set_option maxHeartbeats 400000 in
theorem netJoin_any (h p : List UInt8) (w : World) (hh : h.length ≤ 140737488351232) (hp : p.length ≤ 140737488351232) :
    Calls Tryd.prog 27 #[.string ⟨h.toArray⟩, .string ⟨p.toArray⟩] w fun e w' => e = .returned (.string ⟨(join h p).toArray⟩) ∧ w' = w := by
  have hix : ∀ w : World, (callFunc 34 #[.string ⟨h.toArray⟩, .int .u8 58]).run Tryd.prog w = .ok (.value (.int .i64 (Lib.indexByte h 58))) w := fun w => idx_run h 58 w
  by_cases hc : 58 ∈ h
  · obtain ⟨k, hk, _⟩ := ix_some hc
    have HJ := Lib.hid (show join h p = 91 :: (h ++ 93 :: 58 :: p) by simp [join, hc])
    rw [hk] at hix
    have hge : decide ((0 : Int) ≤ (k : Int)) = true := by simp
    clear hk hc
    go_enter Tryd.func27, Tryd.ntmps27
    go_wp2
    go_ret
    refine ⟨?_, rfl⟩
    rw [HJ.out]
    simp [ba_app]
  · have HJ := Lib.hid (show join h p = h ++ 58 :: p by simp [join, hc])
    rw [ix_none hc] at hix
    clear hc
    go_enter Tryd.func27, Tryd.ntmps27
    go_wp2
    go_ret
    refine ⟨?_, rfl⟩
    rw [HJ.out]
    simp [ba_app]

/-- impl.JoinHostPort -/
theorem implJoin_any (h p : List UInt8) (w : World) (hh : h.length ≤ 140737488351232) (hp : p.length ≤ 140737488351232) :
    Calls Tryd.prog 16 #[.string ⟨h.toArray⟩, .string ⟨p.toArray⟩] w fun e w' => e = .returned (.string ⟨(join h p).toArray⟩) ∧ w' = w := by
  go_enter Tryd.func16, Tryd.ntmps16
  go_wp2_with fail
  refine (netJoin_any h p _ hh hp).mono ?_
  rintro e w1 ⟨rfl, rfl⟩
  go_wp2
  go_ret
  exact ⟨rfl, rfl⟩
end Go.Proofs.YtkmjejgeeghjmaaDoor
