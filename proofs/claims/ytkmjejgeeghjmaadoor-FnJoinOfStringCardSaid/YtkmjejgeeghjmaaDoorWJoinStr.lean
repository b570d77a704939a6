/-
  The walk of the law FnJoinOfString. Condition: the port's length (2^47).
-/
import Derived.Test.YtkmjejgeeghjmaaDoorReadsP
import Derived.Test.YtkmjejgeeghjmaaDoorSpecTo16
import Derived.Test.YtkmjejgeeghjmaaDoorValid
import Derived.Test.YtkmjejgeeghjmaaDoorImplSplit
namespace Go.Proofs.YtkmjejgeeghjmaaDoor
open Go.RowKit
set_option linter.unusedVariables false

theorem dg_sane (d : Nat) (h : d < 16) : dg d ≠ 91 ∧ dg d ≠ 93 := by
  have : ∀ k : Fin 16, dg k.val ≠ 91 ∧ dg k.val ≠ 93 := by decide +kernel
  exact this ⟨d, h⟩
theorem grp_sane {t : List UInt8} {v : Nat} (h : Grp t v) : ∀ c ∈ t, c ≠ 91 ∧ c ≠ 93 := by
  obtain ⟨ds, h1, h2, h3, rfl, h5⟩ := h
  intro c hc
  obtain ⟨d, hd, rfl⟩ := List.mem_map.mp hc
  exact dg_sane d (h1 d hd)
theorem dec_sane (n : Nat) (h : n < 256) : ∀ c ∈ dec n, c ≠ 91 ∧ c ≠ 93 := by
  intro c hc
  obtain ⟨k, hk, rfl⟩ := dec_digs n h c hc
  exact dg_sane k (by omega)
theorem dot4_sane (xs : List UInt8) : ∀ c ∈ dot4 xs, c ≠ 91 ∧ c ≠ 93 := by
  intro c hc
  unfold dot4 at hc
  simp only [List.mem_append, List.mem_cons] at hc
  rcases hc with hc | rfl | hc | rfl | hc | rfl | hc
  · exact dec_sane _ (UInt8.toNat_lt _) c hc
  · decide
  · exact dec_sane _ (UInt8.toNat_lt _) c hc
  · decide
  · exact dec_sane _ (UInt8.toNat_lt _) c hc
  · decide
  · exact dec_sane _ (UInt8.toNat_lt _) c hc
theorem p6_sane {dot : Bool} {s acc out : List UInt8} {ell : Option Nat} (h : P6 dot s acc ell out) : ∀ c ∈ s, c ≠ 91 ∧ c ≠ 93 := by
  induction h with
  | last hg => exact grp_sane hg
  | next hg ha hr hc h ih =>
    intro c hc
    simp only [List.mem_append, List.mem_cons] at hc
    rcases hc with hc | rfl | hc
    · exact grp_sane hg c hc
    · decide
    · exact ih c hc
  | gap hg ha hr h ih =>
    intro c hc
    simp only [List.mem_append, List.mem_cons] at hc
    rcases hc with hc | rfl | rfl | hc
    · exact grp_sane hg c hc
    · decide
    · decide
    · exact ih c hc
  | stop hg =>
    intro c hc
    simp only [List.mem_append, List.mem_cons, List.not_mem_nil, or_false] at hc
    rcases hc with hc | rfl | rfl
    · exact grp_sane hg c hc
    · decide
    · decide
  | @dots xs acc out hd hx ha ho => exact dot4_sane xs
theorem reads_sane {s out : List UInt8} (h : Reads s out) : ∀ c ∈ s, c ≠ 91 ∧ c ≠ 93 := by
  rcases h with ⟨dot, h⟩ | ⟨xs, h1, rfl, rfl⟩
  · cases h with
    | zeros => intro c hc; simp at hc; subst hc; decide
    | front hr h =>
      intro c hc
      simp only [List.mem_cons] at hc
      rcases hc with rfl | rfl | hc
      · decide
      · decide
      · exact p6_sane h c hc
    | plain h => exact p6_sane h
  · exact dot4_sane xs

set_option maxHeartbeats 1000000 in
theorem joinOf_early0 (A : Option Addr) (n c : Nat) (xs p : List UInt8) (w : World) (hn : xs.length = n) (hc : n ≤ c) (ha : Rd w A xs) (p4 p6 : Addr) (hz : ZF w p4 p6) (hp : p.length ≤ 140737488351232) (hv : n = 4 ∨ n = 16) (b0 : decide ((91 : UInt8) ∈ p) = true) :
    Calls Tryd.prog 4 #[.slice A n c, .string ⟨p.toArray⟩] w fun e w' => e = .returned (.bool true) ∧ Below w.heap.size w w' := by
  have V := Lib.hid (show decide (n = 4 ∨ n = 16) = true by simpa using hv)
  have HV := Lib.hid hv
  have HN := Lib.hid hn
  clear hv hn
  have B0 := Lib.hid b0
  clear b0
  go_enter Tryd.func4, Tryd.ntmps4
  go_wp2_with fail
  refine (valid_any _ _ _ _ true V.out).mono ?_
  rintro e w0 ⟨rfl, rfl⟩
  go_wp2_with fail
  refine (lawsHas_any p 91 _ (by omega) true B0.out).mono ?_
  rintro e w0 ⟨rfl, rfl⟩
  go_wp2
  go_ret
  exact ⟨rfl, Below.refl _ _⟩

set_option maxHeartbeats 1000000 in
theorem joinOf_early1 (A : Option Addr) (n c : Nat) (xs p : List UInt8) (w : World) (hn : xs.length = n) (hc : n ≤ c) (ha : Rd w A xs) (p4 p6 : Addr) (hz : ZF w p4 p6) (hp : p.length ≤ 140737488351232) (hv : n = 4 ∨ n = 16) (b0 : decide ((91 : UInt8) ∈ p) = false) (b1 : decide ((93 : UInt8) ∈ p) = true) :
    Calls Tryd.prog 4 #[.slice A n c, .string ⟨p.toArray⟩] w fun e w' => e = .returned (.bool true) ∧ Below w.heap.size w w' := by
  have V := Lib.hid (show decide (n = 4 ∨ n = 16) = true by simpa using hv)
  have HV := Lib.hid hv
  have HN := Lib.hid hn
  clear hv hn
  have B0 := Lib.hid b0
  have B1 := Lib.hid b1
  clear b0 b1
  go_enter Tryd.func4, Tryd.ntmps4
  go_wp2_with fail
  refine (valid_any _ _ _ _ true V.out).mono ?_
  rintro e w0 ⟨rfl, rfl⟩
  go_wp2_with fail
  refine (lawsHas_any p 91 _ (by omega) false B0.out).mono ?_
  rintro e w0 ⟨rfl, rfl⟩
  go_wp2_with fail
  refine (lawsHas_any p 93 _ (by omega) true B1.out).mono ?_
  rintro e w0 ⟨rfl, rfl⟩
  go_wp2
  go_ret
  exact ⟨rfl, Below.refl _ _⟩

set_option maxHeartbeats 1000000 in
theorem joinOf_early2 (A : Option Addr) (n c : Nat) (xs p : List UInt8) (w : World) (hn : xs.length = n) (hc : n ≤ c) (ha : Rd w A xs) (p4 p6 : Addr) (hz : ZF w p4 p6) (hp : p.length ≤ 140737488351232) (hv : n = 4 ∨ n = 16) (b0 : decide ((91 : UInt8) ∈ p) = false) (b1 : decide ((93 : UInt8) ∈ p) = false) (b2 : decide ((58 : UInt8) ∈ p) = true) :
    Calls Tryd.prog 4 #[.slice A n c, .string ⟨p.toArray⟩] w fun e w' => e = .returned (.bool true) ∧ Below w.heap.size w w' := by
  have V := Lib.hid (show decide (n = 4 ∨ n = 16) = true by simpa using hv)
  have HV := Lib.hid hv
  have HN := Lib.hid hn
  clear hv hn
  have B0 := Lib.hid b0
  have B1 := Lib.hid b1
  have B2 := Lib.hid b2
  clear b0 b1 b2
  go_enter Tryd.func4, Tryd.ntmps4
  go_wp2_with fail
  refine (valid_any _ _ _ _ true V.out).mono ?_
  rintro e w0 ⟨rfl, rfl⟩
  go_wp2_with fail
  refine (lawsHas_any p 91 _ (by omega) false B0.out).mono ?_
  rintro e w0 ⟨rfl, rfl⟩
  go_wp2_with fail
  refine (lawsHas_any p 93 _ (by omega) false B1.out).mono ?_
  rintro e w0 ⟨rfl, rfl⟩
  go_wp2_with fail
  refine (lawsHas_any p 58 _ (by omega) true B2.out).mono ?_
  rintro e w0 ⟨rfl, rfl⟩
  go_wp2
  go_ret
  exact ⟨rfl, Below.refl _ _⟩

set_option maxHeartbeats 1000000 in
theorem joinOf_main (A : Option Addr) (n c : Nat) (xs p : List UInt8) (w : World) (hn : xs.length = n) (hc : n ≤ c) (ha : Rd w A xs) (p4 p6 : Addr) (hz : ZF w p4 p6) (hp : p.length ≤ 140737488351232) (hv : n = 4 ∨ n = 16) (b0 : decide ((91 : UInt8) ∈ p) = false) (b1 : decide ((93 : UInt8) ∈ p) = false) (b2 : decide ((58 : UInt8) ∈ p) = false) :
    Calls Tryd.prog 4 #[.slice A n c, .string ⟨p.toArray⟩] w fun e w' => e = .returned (.bool true) ∧ Below w.heap.size w w' := by
  have V := Lib.hid (show decide (n = 4 ∨ n = 16) = true by simpa using hv)
  have HV := Lib.hid hv
  have HN := Lib.hid hn
  clear hv hn
  have B0 := Lib.hid b0
  have B1 := Lib.hid b1
  have B2 := Lib.hid b2
  have HRD := Lib.hid (reads_text (xs := xs) (by rw [HN.out]; exact HV.out))
  have a1 : (91 : UInt8) ∉ ipText xs := fun h => (reads_sane HRD.out 91 h).1 rfl
  have a2 : (93 : UInt8) ∉ ipText xs := fun h => (reads_sane HRD.out 93 h).2 rfl
  have a3 : (91 : UInt8) ∉ p := by simpa using b0
  have a4 : (93 : UInt8) ∉ p := by simpa using b1
  have a5 : (58 : UInt8) ∉ p := by simpa using b2
  have hl := (reads_len HRD.out).1
  have fs := implSplit_of (join (ipText xs) p) (some (ipText xs, p)) (fun w => split_join (ipText xs) p (by omega) hp a1 a2 a3 a4 a5 w)
  have FS := Lib.hid fs
  have fj := fun (W' : World) => implJoin_any (ipText xs) p W' (by omega) hp
  have FJ := Lib.hid fj
  clear fs fj a1 a2 a3 a4 a5
  clear b0 b1 b2
  go_enter Tryd.func4, Tryd.ntmps4
  go_wp2_with fail
  refine (valid_any _ _ _ _ true V.out).mono ?_
  rintro e w0 ⟨rfl, rfl⟩
  go_wp2_with fail
  refine (lawsHas_any p 91 _ (by omega) false B0.out).mono ?_
  rintro e w0 ⟨rfl, rfl⟩
  go_wp2_with fail
  refine (lawsHas_any p 93 _ (by omega) false B1.out).mono ?_
  rintro e w0 ⟨rfl, rfl⟩
  go_wp2_with fail
  refine (lawsHas_any p 58 _ (by omega) false B2.out).mono ?_
  rintro e w0 ⟨rfl, rfl⟩
  go_wp2_with fail
  refine (specTo16_any _ _ _ xs _ HN.out (by exact ha)).mono ?_
  rintro e w1 ⟨A1, n1, c1, rfl, hn1, hown1, hb1⟩
  have HN1 := Lib.hid hn1
  clear hn1
  go_wp2_with fail
  refine (implString_any _ _ _ xs p4 p6 _ (hz.below hb1) HN.out HV.out (by exact ha.below hb1)).mono ?_
  rintro e w2 ⟨rfl, hb2'⟩
  have hb2 := hb1.trans (hb2'.mono hb1.size)
  generalize (to16 xs).getD [] = out2 at HRD HN1 hown1
  generalize ipText xs = T at HRD FS FJ hl ⊢
  go_wp2_with fail
  refine (FJ.out _).mono ?_
  rintro e w3 ⟨rfl, hw3⟩
  subst hw3
  go_wp2_with fail
  refine (FS.out _).mono ?_
  rintro e w4 ⟨rfl, hb4'⟩
  simp only [Option.getD_some, Option.isSome_some]
  have hb4 := hb2.trans (hb4'.mono hb2.size)
  go_wp2_with fail
  refine (implParseIP_any HRD.out p4 p6 _ (hz.below hb4)).mono ?_
  rintro e w5 ⟨A3, n3, c3, rfl, hn3, hown3, hb3'⟩
  have hb5 := hb4.trans (hb3'.mono hb4.size)
  have HN3 := Lib.hid hn3
  have LE : n3 ≤ 9223372036854775807 := by have L3 := HRD.out.len; simp only [Option.getD_some] at hn3; omega
  clear hn3
  go_wp2_with fail
  refine (same_any _ _ _ _ _ _ out2 out2 _ HN3.out HN1.out (by exact Rd.of_own hown3) (by exact (((Rd.of_own hown1).below hb2').below hb4').below hb3') LE true (eqb_true rfl)).mono ?_
  rintro e w6 ⟨rfl, k6, rfl⟩
  go_wp2
  go_ret
  exact ⟨rfl, below_drewN hb5 _⟩

theorem walk_FnJoinOfString (A : Option Addr) (n c : Nat) (xs : List UInt8) (t : ByteArray) (w : World) (hn : xs.length = n) (hc : n ≤ c) (hs : c ≤ 140737488351232) (ha : Rd w A xs) (hp : t.size ≤ 140737488351232) (hvars : ∃ p4 p6, ZF w p4 p6) :
    Calls Tryd.prog 4 #[.slice A n c, .string t] w fun e w' => e = .returned (.bool true) ∧ Below w.heap.size w w' := by
  obtain ⟨p4, p6, hz⟩ := hvars
  have h2 : t.data.toList.length ≤ 140737488351232 := by simpa using hp
  show Calls Tryd.prog 4 #[.slice A n c, .string ⟨t.data.toList.toArray⟩] w _
  generalize t.data.toList = p at h2
  by_cases hv : n = 4 ∨ n = 16
  · by_cases b0 : (91 : UInt8) ∈ p
    · exact joinOf_early0 A n c xs p w hn hc ha p4 p6 hz h2 hv (by simpa using b0)
    by_cases b1 : (93 : UInt8) ∈ p
    · exact joinOf_early1 A n c xs p w hn hc ha p4 p6 hz h2 hv (by simpa using b0) (by simpa using b1)
    by_cases b2 : (58 : UInt8) ∈ p
    · exact joinOf_early2 A n c xs p w hn hc ha p4 p6 hz h2 hv (by simpa using b0) (by simpa using b1) (by simpa using b2)
    · exact joinOf_main A n c xs p w hn hc ha p4 p6 hz h2 hv (by simpa using b0) (by simpa using b1) (by simpa using b2)
  · have V := Lib.hid (show decide (n = 4 ∨ n = 16) = false by simpa using hv)
    clear hv hn
    go_enter Tryd.func4, Tryd.ntmps4
    go_wp2_with fail
    refine (valid_any _ _ _ _ false V.out).mono ?_
    rintro e w1 ⟨rfl, rfl⟩
    go_wp2
    go_ret
    exact ⟨rfl, Below.refl _ _⟩
end Go.Proofs.YtkmjejgeeghjmaaDoor
