/-
  The walk of the statement FnSplitHostPort: it returns true and changes nothing that was there, for a string of at most 1048576 bytes.
-/
import Derived.Test.YtebnhhifodmkkaaSpecSplitHP
namespace Go.Proofs.Ytebnhhifodmkkaa
open Go.RowKit
set_option linter.unusedVariables false

set_option maxHeartbeats 400000 in
theorem walkl_FnSplitHostPort (s : List UInt8) (w : World) (hs : s.length ≤ 1048576) :
    Calls Try.prog 8 #[.string ⟨s.toArray⟩] w fun e w' => e = .returned (.bool true) ∧ Below w.heap.size w w' := by
  have HS := Lib.hid hs
  go_enter Try.func8, Try.ntmps8
  go_wp2_with fail
  refine (specSplit_any s _ hs).mono ?_
  rintro e w1 ⟨h, p, ok, clear, rfl, hcl, hno, hb1⟩
  rcases clear with _ | _
  · obtain ⟨o, ho⟩ := split_ex s (by omega)
    have HO := Lib.hid ho
    clear ho hcl hno
    go_wp2_with fail
    refine (implSplit_of s o HO.out _).mono ?_
    rintro e w2 ⟨rfl, hb2⟩
    go_wp2
    go_ret
    exact ⟨rfl, hb1.trans (hb2.mono hb1.size)⟩
  · have HC := Lib.hid (hcl rfl)
    clear hcl
    rcases ok with _ | _
    · obtain ⟨rfl, rfl⟩ := hno rfl
      clear hno
      go_wp2_with fail
      refine (implSplit_of s none (fun w => by simpa using HC.out w) _).mono ?_
      rintro e w2 ⟨rfl, hb2⟩
      go_wp2
      go_ret
      exact ⟨rfl, hb1.trans (hb2.mono hb1.size)⟩
    · clear hno
      go_wp2_with fail
      refine (implSplit_of s (some (h, p)) (fun w => by simpa using HC.out w) _).mono ?_
      rintro e w2 ⟨rfl, hb2⟩
      go_wp2
      go_ret
      exact ⟨rfl, hb1.trans (hb2.mono hb1.size)⟩

theorem walk_FnSplitHostPort (s : ByteArray) (w : World) (hh : s.size ≤ 140737488351232) (hm : s.size ≤ 1048576) :
    Calls Try.prog 8 #[.string s] w fun e w' => e = .returned (.bool true) ∧ Below w.heap.size w w' :=
  walkl_FnSplitHostPort s.data.toList w (by simpa using hm)
end Go.Proofs.Ytebnhhifodmkkaa
