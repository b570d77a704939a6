/-
  The walk of the statement FnSplitJoined: it returns true and changes nothing that was there.
-/
import Derived.Test.YtebnhhifodmkkaaImplSplit
namespace Go.Proofs.Ytebnhhifodmkkaa
open Go.RowKit
set_option linter.unusedVariables false

theorem join_le (h p : List UInt8) : (join h p).length ≤ h.length + p.length + 3 := by
  unfold join; split <;> simp <;> omega

set_option maxHeartbeats 400000 in
theorem splitJoined_early0 (h p : List UInt8) (w : World) (hh : h.length ≤ 140737488351232) (hp : p.length ≤ 140737488351232) (b0 : decide ((91 : UInt8) ∈ h) = true) :
    Calls Try.prog 9 #[.string ⟨h.toArray⟩, .string ⟨p.toArray⟩] w fun e w' => e = .returned (.bool true) ∧ Below w.heap.size w w' := by
  have B0 := Lib.hid b0
  clear b0
  go_enter Try.func9, Try.ntmps9
  go_wp2_with fail
  refine (lawsHas_any h 91 _ (by omega) true B0.out).mono ?_
  rintro e w0 ⟨rfl, rfl⟩
  go_wp2
  go_ret
  exact ⟨rfl, Below.refl _ _⟩

set_option maxHeartbeats 400000 in
theorem splitJoined_early1 (h p : List UInt8) (w : World) (hh : h.length ≤ 140737488351232) (hp : p.length ≤ 140737488351232) (b0 : decide ((91 : UInt8) ∈ h) = false) (b1 : decide ((93 : UInt8) ∈ h) = true) :
    Calls Try.prog 9 #[.string ⟨h.toArray⟩, .string ⟨p.toArray⟩] w fun e w' => e = .returned (.bool true) ∧ Below w.heap.size w w' := by
  have B0 := Lib.hid b0
  have B1 := Lib.hid b1
  clear b0 b1
  go_enter Try.func9, Try.ntmps9
  go_wp2_with fail
  refine (lawsHas_any h 91 _ (by omega) false B0.out).mono ?_
  rintro e w0 ⟨rfl, rfl⟩
  go_wp2_with fail
  refine (lawsHas_any h 93 _ (by omega) true B1.out).mono ?_
  rintro e w0 ⟨rfl, rfl⟩
  go_wp2
  go_ret
  exact ⟨rfl, Below.refl _ _⟩

set_option maxHeartbeats 400000 in
theorem splitJoined_early2 (h p : List UInt8) (w : World) (hh : h.length ≤ 140737488351232) (hp : p.length ≤ 140737488351232) (b0 : decide ((91 : UInt8) ∈ h) = false) (b1 : decide ((93 : UInt8) ∈ h) = false) (b2 : decide ((91 : UInt8) ∈ p) = true) :
    Calls Try.prog 9 #[.string ⟨h.toArray⟩, .string ⟨p.toArray⟩] w fun e w' => e = .returned (.bool true) ∧ Below w.heap.size w w' := by
  have B0 := Lib.hid b0
  have B1 := Lib.hid b1
  have B2 := Lib.hid b2
  clear b0 b1 b2
  go_enter Try.func9, Try.ntmps9
  go_wp2_with fail
  refine (lawsHas_any h 91 _ (by omega) false B0.out).mono ?_
  rintro e w0 ⟨rfl, rfl⟩
  go_wp2_with fail
  refine (lawsHas_any h 93 _ (by omega) false B1.out).mono ?_
  rintro e w0 ⟨rfl, rfl⟩
  go_wp2_with fail
  refine (lawsHas_any p 91 _ (by omega) true B2.out).mono ?_
  rintro e w0 ⟨rfl, rfl⟩
  go_wp2
  go_ret
  exact ⟨rfl, Below.refl _ _⟩

set_option maxHeartbeats 400000 in
theorem splitJoined_early3 (h p : List UInt8) (w : World) (hh : h.length ≤ 140737488351232) (hp : p.length ≤ 140737488351232) (b0 : decide ((91 : UInt8) ∈ h) = false) (b1 : decide ((93 : UInt8) ∈ h) = false) (b2 : decide ((91 : UInt8) ∈ p) = false) (b3 : decide ((93 : UInt8) ∈ p) = true) :
    Calls Try.prog 9 #[.string ⟨h.toArray⟩, .string ⟨p.toArray⟩] w fun e w' => e = .returned (.bool true) ∧ Below w.heap.size w w' := by
  have B0 := Lib.hid b0
  have B1 := Lib.hid b1
  have B2 := Lib.hid b2
  have B3 := Lib.hid b3
  clear b0 b1 b2 b3
  go_enter Try.func9, Try.ntmps9
  go_wp2_with fail
  refine (lawsHas_any h 91 _ (by omega) false B0.out).mono ?_
  rintro e w0 ⟨rfl, rfl⟩
  go_wp2_with fail
  refine (lawsHas_any h 93 _ (by omega) false B1.out).mono ?_
  rintro e w0 ⟨rfl, rfl⟩
  go_wp2_with fail
  refine (lawsHas_any p 91 _ (by omega) false B2.out).mono ?_
  rintro e w0 ⟨rfl, rfl⟩
  go_wp2_with fail
  refine (lawsHas_any p 93 _ (by omega) true B3.out).mono ?_
  rintro e w0 ⟨rfl, rfl⟩
  go_wp2
  go_ret
  exact ⟨rfl, Below.refl _ _⟩

set_option maxHeartbeats 400000 in
theorem splitJoined_early4 (h p : List UInt8) (w : World) (hh : h.length ≤ 140737488351232) (hp : p.length ≤ 140737488351232) (b0 : decide ((91 : UInt8) ∈ h) = false) (b1 : decide ((93 : UInt8) ∈ h) = false) (b2 : decide ((91 : UInt8) ∈ p) = false) (b3 : decide ((93 : UInt8) ∈ p) = false) (b4 : decide ((58 : UInt8) ∈ p) = true) :
    Calls Try.prog 9 #[.string ⟨h.toArray⟩, .string ⟨p.toArray⟩] w fun e w' => e = .returned (.bool true) ∧ Below w.heap.size w w' := by
  have B0 := Lib.hid b0
  have B1 := Lib.hid b1
  have B2 := Lib.hid b2
  have B3 := Lib.hid b3
  have B4 := Lib.hid b4
  clear b0 b1 b2 b3 b4
  go_enter Try.func9, Try.ntmps9
  go_wp2_with fail
  refine (lawsHas_any h 91 _ (by omega) false B0.out).mono ?_
  rintro e w0 ⟨rfl, rfl⟩
  go_wp2_with fail
  refine (lawsHas_any h 93 _ (by omega) false B1.out).mono ?_
  rintro e w0 ⟨rfl, rfl⟩
  go_wp2_with fail
  refine (lawsHas_any p 91 _ (by omega) false B2.out).mono ?_
  rintro e w0 ⟨rfl, rfl⟩
  go_wp2_with fail
  refine (lawsHas_any p 93 _ (by omega) false B3.out).mono ?_
  rintro e w0 ⟨rfl, rfl⟩
  go_wp2_with fail
  refine (lawsHas_any p 58 _ (by omega) true B4.out).mono ?_
  rintro e w0 ⟨rfl, rfl⟩
  go_wp2
  go_ret
  exact ⟨rfl, Below.refl _ _⟩

set_option maxHeartbeats 400000 in
theorem splitJoined_main (h p : List UInt8) (w : World) (hh : h.length ≤ 140737488351232) (hp : p.length ≤ 140737488351232) (b0 : decide ((91 : UInt8) ∈ h) = false) (b1 : decide ((93 : UInt8) ∈ h) = false) (b2 : decide ((91 : UInt8) ∈ p) = false) (b3 : decide ((93 : UInt8) ∈ p) = false) (b4 : decide ((58 : UInt8) ∈ p) = false) :
    Calls Try.prog 9 #[.string ⟨h.toArray⟩, .string ⟨p.toArray⟩] w fun e w' => e = .returned (.bool true) ∧ Below w.heap.size w w' := by
  have B0 := Lib.hid b0
  have B1 := Lib.hid b1
  have B2 := Lib.hid b2
  have B3 := Lib.hid b3
  have B4 := Lib.hid b4
  clear b0 b1 b2 b3 b4
  go_enter Try.func9, Try.ntmps9
  go_wp2_with fail
  refine (lawsHas_any h 91 _ (by omega) false B0.out).mono ?_
  rintro e w0 ⟨rfl, rfl⟩
  go_wp2_with fail
  refine (lawsHas_any h 93 _ (by omega) false B1.out).mono ?_
  rintro e w0 ⟨rfl, rfl⟩
  go_wp2_with fail
  refine (lawsHas_any p 91 _ (by omega) false B2.out).mono ?_
  rintro e w0 ⟨rfl, rfl⟩
  go_wp2_with fail
  refine (lawsHas_any p 93 _ (by omega) false B3.out).mono ?_
  rintro e w0 ⟨rfl, rfl⟩
  go_wp2_with fail
  refine (lawsHas_any p 58 _ (by omega) false B4.out).mono ?_
  rintro e w0 ⟨rfl, rfl⟩
  go_wp2_with fail
  refine (implJoin_any h p _ hh hp).mono ?_
  rintro e w1 ⟨rfl, hw⟩
  subst hw
  go_wp2_with fail
  refine (implSplit_of (join h p) (some (h, p)) (fun w => split_join h p hh hp (by simpa using B0.out) (by simpa using B1.out) (by simpa using B2.out) (by simpa using B3.out) (by simpa using B4.out) w) _).mono ?_
  rintro e w2 ⟨rfl, hb⟩
  go_wp2
  go_ret
  exact ⟨rfl, hb⟩

theorem walk_FnSplitJoined (s t : ByteArray) (w : World) (hh : s.size ≤ 140737488351232) (hp : t.size ≤ 140737488351232) :
    Calls Try.prog 9 #[.string s, .string t] w fun e w' => e = .returned (.bool true) ∧ Below w.heap.size w w' := by
  have h1 : s.data.toList.length ≤ 140737488351232 := by simpa using hh
  have h2 : t.data.toList.length ≤ 140737488351232 := by simpa using hp
  show Calls Try.prog 9 #[.string ⟨s.data.toList.toArray⟩, .string ⟨t.data.toList.toArray⟩] w _
  generalize s.data.toList = h at h1
  generalize t.data.toList = p at h2
  by_cases b0 : (91 : UInt8) ∈ h
  · exact splitJoined_early0 h p w h1 h2 (by simpa using b0)
  by_cases b1 : (93 : UInt8) ∈ h
  · exact splitJoined_early1 h p w h1 h2 (by simpa using b0) (by simpa using b1)
  by_cases b2 : (91 : UInt8) ∈ p
  · exact splitJoined_early2 h p w h1 h2 (by simpa using b0) (by simpa using b1) (by simpa using b2)
  by_cases b3 : (93 : UInt8) ∈ p
  · exact splitJoined_early3 h p w h1 h2 (by simpa using b0) (by simpa using b1) (by simpa using b2) (by simpa using b3)
  by_cases b4 : (58 : UInt8) ∈ p
  · exact splitJoined_early4 h p w h1 h2 (by simpa using b0) (by simpa using b1) (by simpa using b2) (by simpa using b3) (by simpa using b4)
  · exact splitJoined_main h p w h1 h2 (by simpa using b0) (by simpa using b1) (by simpa using b2) (by simpa using b3) (by simpa using b4)
end Go.Proofs.Ytebnhhifodmkkaa
