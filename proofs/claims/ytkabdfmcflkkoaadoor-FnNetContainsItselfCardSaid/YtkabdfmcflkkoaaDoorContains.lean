/-
  Contracts of net.networkNumberAndMask, (*net.IPNet).Contains and impl.NetContains, for a number, a mask and an address of one length, 4 or 16 bytes, none IPv4-mapped.
-/
import Derived.Test.YtkabdfmcflkkoaaDoorTo4
import Derived.Test.YtkabdfmcflkkoaaDoorAnd
namespace Go.Proofs.YtkabdfmcflkkoaaDoor
open Go.RowKit
set_option linter.unusedVariables false

set_option maxHeartbeats 400000 in
theorem nnm_4 (B : Nat) (A M : Option Addr) (c d : Nat) (xs ms : List UInt8) (w : World) (h0 : w.cell? ⟨B, 0, none⟩ = some (.slice A 4 c)) (h1 : w.cell? ⟨B, 1, none⟩ = some (.slice M 4 d)) (hx : xs.length = 4) (hc : 4 ≤ c) (ha : Rd w A xs) :
    Calls Tryd.prog 25 #[.pointer (some ⟨B, 0, none⟩)] w fun e w' => ∃ A' c', e = .returned (.tuple #[.slice A' 4 c', .slice M 4 d]) ∧ 4 ≤ c' ∧ Rd w A' xs ∧ w = w' := by
  have HX := Lib.hid hx
  have HT := Lib.hid (to4_four hx)
  clear hx
  have heq := fun (w : World) (a : Option Addr) (n c : Nat) => Lib.run_eql_slice_nil (P := Tryd.prog) w 34 5 a n c 0 0 Tryd.underlying34
  go_enter Tryd.func25, Tryd.ntmps25
  go_wp2_with fail
  refine (netTo4_any _ _ _ xs _ HX.out hc (by exact ha)).mono ?_
  rintro e w1 ⟨A1, n1, c1, rfl, hn1, hc1, hr1, hi1, rfl⟩
  rw [HT.out] at hn1 hr1 hi1
  obtain rfl : n1 = 4 := by rw [← hn1]; exact HX.out
  obtain ⟨a1, rfl⟩ : ∃ a, A1 = some a := by cases A1 with | none => simp at hi1 | some a => exact ⟨a, rfl⟩
  clear hn1 hi1
  go_wp2
  go_ret2
  exact ⟨_, _, rfl, hc1, hr1, rfl⟩

set_option maxHeartbeats 400000 in
theorem nnm_16 (B : Nat) (A M : Option Addr) (c d : Nat) (xs ms : List UInt8) (w : World) (h0 : w.cell? ⟨B, 0, none⟩ = some (.slice A 16 c)) (h1 : w.cell? ⟨B, 1, none⟩ = some (.slice M 16 d)) (hx : xs.length = 16) (hm : xs.take 12 ≠ mp) (hc : 16 ≤ c) (ha : Rd w A xs) :
    Calls Tryd.prog 25 #[.pointer (some ⟨B, 0, none⟩)] w fun e w' => ∃ A' c', e = .returned (.tuple #[.slice A' 16 c', .slice M 16 d]) ∧ 16 ≤ c' ∧ Rd w A' xs ∧ w = w' := by
  have HX := Lib.hid hx
  have HT := Lib.hid (to4_six hx hm)
  clear hx hm
  have heq := fun (w : World) (a : Option Addr) (n c : Nat) => Lib.run_eql_slice_nil (P := Tryd.prog) w 34 5 a n c 0 0 Tryd.underlying34
  go_enter Tryd.func25, Tryd.ntmps25
  go_wp2_with fail
  refine (netTo4_any _ _ _ xs _ HX.out hc (by exact ha)).mono ?_
  rintro e w1 ⟨A1, n1, c1, rfl, hn1, hc1, hr1, hi1, rfl⟩
  rw [HT.out] at hn1 hr1 hi1
  obtain rfl : n1 = 0 := hn1.symm
  obtain rfl : A1 = none := by cases A1 with | none => rfl | some a => simp at hi1
  clear hn1 hi1
  go_wp2
  go_ret2
  exact ⟨_, _, rfl, hc, ha, rfl⟩

set_option maxHeartbeats 1000000 in
theorem contains_4 (B : Nat) (A M Z : Option Addr) (c d f : Nat) (xs ms zs : List UInt8) (w : World) (h0 : w.cell? ⟨B, 0, none⟩ = some (.slice A 4 c)) (h1 : w.cell? ⟨B, 1, none⟩ = some (.slice M 4 d)) (hx : xs.length = 4) (hms : ms.length = 4) (hz : zs.length = 4) (hc : 4 ≤ c) (hf : 4 ≤ f) (ha : Rd w A xs) (hm : Rd w M ms) (hz0 : Rd w Z zs)
    (r : Bool) (hr : eqb (andL xs ms) (andL zs ms) = r) :
    Calls Tryd.prog 22 #[.pointer (some ⟨B, 0, none⟩), .slice Z 4 f] w fun e w' => e = .returned (.bool r) ∧ ∃ k, w' = w.drewN k := by
  have HX := Lib.hid hx
  have HZ := Lib.hid hz
  have HM := Lib.hid hms
  have HT := Lib.hid (to4_four hz)
  have HR := Lib.hid hr
  clear hx hz hms hr
  have hneq := fun (w : World) (a : Option Addr) (n c : Nat) => run_neq_slice_nil_any (P := Tryd.prog) w 34 5 a n c 0 0 Tryd.underlying34
  go_enter Tryd.func22, Tryd.ntmps22
  go_wp2_with fail
  refine (nnm_4 B A M c d xs ms _ (by exact h0) (by exact h1) HX.out hc (by exact ha)).mono ?_
  rintro e w1 ⟨A', c', rfl, hc', hra, rfl⟩
  go_wp2_with fail
  refine (netTo4_any _ _ _ zs _ HZ.out hf (by exact hz0)).mono ?_
  rintro e w1 ⟨A1, n1, c1, rfl, hn1, hc1, hr1, hi1, rfl⟩
  rw [HT.out] at hn1 hr1 hi1
  obtain rfl : n1 = 4 := by rw [← hn1]; exact HZ.out
  obtain ⟨a1, rfl⟩ : ∃ a, A1 = some a := by cases A1 with | none => simp at hi1 | some a => exact ⟨a, rfl⟩
  clear hn1 hi1
  go_wp2
  go_loopw [9] (fun i wr => ∃ k r : Nat, k ≤ 4 ∧ i = .int .i64 k ∧ wr = w.drewN r ∧ Hid (∀ j (h1 : j < xs.length) (h2 : j < ms.length) (h3 : j < zs.length), j < k → xs[j] &&& ms[j] = zs[j] &&& ms[j])) (fun i _ => 4 - (intOf i).toNat)
  case atStart => exact ⟨0, 0, by decide, rfl, rfl, fun j _ _ _ h => absurd h (by omega)⟩
  case round =>
    obtain ⟨k, r0, hk, rfl, rfl, HS⟩ := hrel
    by_cases hlt : k < 4
    · have l1 : k < xs.length := by rw [HX.out]; exact hlt
      have l2 : k < ms.length := by rw [HM.out]; exact hlt
      have l3 : k < zs.length := by rw [HZ.out]; exact hlt
      obtain ⟨b1, o1, rfl, _, q1⟩ := hra.at_ l1
      obtain ⟨b2, o2, rfl, _, q2⟩ := hm.at_ l2
      obtain ⟨b3, o3, e3, _, q3⟩ := hr1.at_ l3
      injection e3 with e3; subst e3
      have g1 := q1 k l1
      have g2 := q2 k l2
      have g3 := q3 k l3
      clear q1 q2 q3
      have s1 := and_u8 xs[k] ms[k]
      have s2 := and_u8 zs[k] ms[k]
      by_cases hd : xs[k] &&& ms[k] = zs[k] &&& ms[k]
      · have t1 : (bits BinOp.and IntKind.u8 (xs[k].toNat : Int) (ms[k].toNat : Int) != bits BinOp.and IntKind.u8 (zs[k].toNat : Int) (ms[k].toNat : Int)) = false := by rw [s1, s2]; exact u8eqn hd
        have HD := Lib.hid hd
        clear hd s1 s2
        go_wp2
        go_quiet (fail)
        go_wp2
        go_roundw
        case rel =>
          refine ⟨k + 1, _, by omega, by go_num, rfl, fun j a1 a2 a3 hj => ?_⟩
          rcases Nat.lt_or_ge j k with h | h
          · exact HS.out j a1 a2 a3 h
          · obtain rfl : j = k := by omega
            exact HD.out
        case measure => simp [intOf]; omega
      · have t1 : (bits BinOp.and IntKind.u8 (xs[k].toNat : Int) (ms[k].toNat : Int) != bits BinOp.and IntKind.u8 (zs[k].toNat : Int) (ms[k].toNat : Int)) = true := by rw [s1, s2]; exact u8nen hd
        have HD := Lib.hid (show eqb (andL xs ms) (andL zs ms) = false from eqb_false (fun e => hd (by
          have e1 := andL_get xs ms k l1 l2 (h3 := by simp [andL]; omega)
          have e2 := andL_get zs ms k l3 l2 (h3 := by simp [andL]; omega)
          rw [← e1, ← e2]; congr 1)))
        clear hd s1 s2
        go_wp2
        go_quiet (fail)
        go_wp2
        go_ret
        exact ⟨ret_bool (by rw [← HR.out, HD.out]), r0 + nq, by rw [World.drewN_drewN]⟩
    · have HD := Lib.hid (show eqb (andL xs ms) (andL zs ms) = true from eqb_true (by
        apply List.ext_getElem
        · rw [andL_length _ _ (by rw [HX.out, HM.out]; exact Nat.le_refl _), andL_length _ _ (by rw [HZ.out, HM.out]; exact Nat.le_refl _), HX.out, HZ.out]
        · intro j a1 a2
          have b1 : j < 4 := by simp [andL] at a1; have := HX.out; omega
          rw [andL_get xs ms j (by rw [HX.out]; exact b1) (by rw [HM.out]; exact b1), andL_get zs ms j (by rw [HZ.out]; exact b1) (by rw [HM.out]; exact b1)]
          exact HS.out j _ _ _ (by omega)))
      go_wp2
      go_ret
      exact ⟨ret_bool (by rw [← HR.out, HD.out]), r0, rfl⟩

set_option maxHeartbeats 1000000 in
theorem implContains_4 (A M Z : Option Addr) (c d f : Nat) (xs ms zs : List UInt8) (w : World) (hx : xs.length = 4) (hms : ms.length = 4) (hz : zs.length = 4) (ha : Rd w A xs) (hm : Rd w M ms) (hz0 : Rd w Z zs)
    (r : Bool) (hr : eqb (andL xs ms) (andL zs ms) = r) :
    Calls Tryd.prog 16 #[.slice A 4 c, .slice M 4 d, .slice Z 4 f] w fun e w' => e = .returned (.bool r) ∧ Below w.heap.size w w' := by
  have HX := Lib.hid hx
  have HZ := Lib.hid hz
  have HM := Lib.hid hms
  have HR := Lib.hid hr
  clear hx hz hms hr
  go_enter Tryd.func16, Tryd.ntmps16
  go_wp2_with fail
  refine (plain_any _ _ _ xs _ HX.out (by exact ha) (by decide)).mono ?_
  rintro e w1 ⟨A1, n1, c1, rfl, hn1, hown1, hb1⟩
  obtain rfl : n1 = 4 := by rw [← hn1]; exact HX.out
  clear hn1
  go_wp2_with fail
  refine (plain_any _ _ _ ms _ HM.out (by exact hm.below hb1) (by decide)).mono ?_
  rintro e w2 ⟨A2, n2, c2, rfl, hn2, hown2, hb2⟩
  obtain rfl : n2 = 4 := by rw [← hn2]; exact HM.out
  clear hn2
  have hb12 := hb1.trans (hb2.mono hb1.size)
  go_wp2_with fail
  refine (plain_any _ _ _ zs _ HZ.out (by exact (hz0.below hb12).alloc _) (by decide)).mono ?_
  rintro e w3 ⟨A3, n3, c3, rfl, hn3, hown3, hb3⟩
  obtain rfl : n3 = 4 := by rw [← hn3]; exact HZ.out
  clear hn3
  go_wp2_with fail
  refine (contains_4 _ A1 A2 A3 c1 c2 c3 xs ms zs _ ?h0 ?h1 HX.out HM.out HZ.out (own_cap hown1) (own_cap hown3) ?ra ?rm (Rd.of_own (xs := zs) hown3) r HR.out).mono ?_
  case h0 => rw [hb3.cell (p := ⟨w2.heap.size, 0, none⟩) (by simp)]; simp
  case h1 => rw [hb3.cell (p := ⟨w2.heap.size, 1, none⟩) (by simp)]; simp
  case ra => exact (((Rd.of_own (xs := xs) hown1).below hb2).alloc _).below hb3
  case rm => exact ((Rd.of_own (xs := ms) hown2).alloc _).below hb3
  rintro e w4 ⟨rfl, k4, rfl⟩
  go_wp2
  go_ret
  exact ⟨rfl, below_drewN (hb12.trans (((Below.refl _ _).alloc (Nat.le_refl _) _).trans (hb3.mono (by simp)) |>.mono hb12.size)) _⟩

set_option maxHeartbeats 1000000 in
theorem contains_16 (B : Nat) (A M Z : Option Addr) (c d f : Nat) (xs ms zs : List UInt8) (w : World) (h0 : w.cell? ⟨B, 0, none⟩ = some (.slice A 16 c)) (h1 : w.cell? ⟨B, 1, none⟩ = some (.slice M 16 d)) (hx : xs.length = 16) (hms : ms.length = 16) (hz : zs.length = 16) (hmx : xs.take 12 ≠ mp) (hmz : zs.take 12 ≠ mp) (hc : 16 ≤ c) (hf : 16 ≤ f) (ha : Rd w A xs) (hm : Rd w M ms) (hz0 : Rd w Z zs)
    (r : Bool) (hr : eqb (andL xs ms) (andL zs ms) = r) :
    Calls Tryd.prog 22 #[.pointer (some ⟨B, 0, none⟩), .slice Z 16 f] w fun e w' => e = .returned (.bool r) ∧ ∃ k, w' = w.drewN k := by
  have HX := Lib.hid hx
  have HZ := Lib.hid hz
  have HM := Lib.hid hms
  have HT := Lib.hid (to4_six hz hmz)
  have HMX := Lib.hid hmx
  have HR := Lib.hid hr
  clear hx hz hms hr hmx hmz
  have hneq := fun (w : World) (a : Option Addr) (n c : Nat) => run_neq_slice_nil_any (P := Tryd.prog) w 34 5 a n c 0 0 Tryd.underlying34
  go_enter Tryd.func22, Tryd.ntmps22
  go_wp2_with fail
  refine (nnm_16 B A M c d xs ms _ (by exact h0) (by exact h1) HX.out HMX.out hc (by exact ha)).mono ?_
  rintro e w1 ⟨A', c', rfl, hc', hra, rfl⟩
  go_wp2_with fail
  refine (netTo4_any _ _ _ zs _ HZ.out hf (by exact hz0)).mono ?_
  rintro e w1 ⟨A1, n1, c1, rfl, hn1, hc1, hr1, hi1, rfl⟩
  rw [HT.out] at hn1 hr1 hi1
  obtain rfl : n1 = 0 := hn1.symm
  obtain rfl : A1 = none := by cases A1 with | none => rfl | some a => simp at hi1
  clear hn1 hi1 hr1
  have hr1 := hz0
  go_wp2
  go_loopw [9] (fun i wr => ∃ k r : Nat, k ≤ 16 ∧ i = .int .i64 k ∧ wr = w.drewN r ∧ Hid (∀ j (h1 : j < xs.length) (h2 : j < ms.length) (h3 : j < zs.length), j < k → xs[j] &&& ms[j] = zs[j] &&& ms[j])) (fun i _ => 16 - (intOf i).toNat)
  case atStart => exact ⟨0, 0, by decide, rfl, rfl, fun j _ _ _ h => absurd h (by omega)⟩
  case round =>
    obtain ⟨k, r0, hk, rfl, rfl, HS⟩ := hrel
    by_cases hlt : k < 16
    · have l1 : k < xs.length := by rw [HX.out]; exact hlt
      have l2 : k < ms.length := by rw [HM.out]; exact hlt
      have l3 : k < zs.length := by rw [HZ.out]; exact hlt
      obtain ⟨b1, o1, rfl, _, q1⟩ := hra.at_ l1
      obtain ⟨b2, o2, rfl, _, q2⟩ := hm.at_ l2
      obtain ⟨b3, o3, e3, _, q3⟩ := hr1.at_ l3
      subst e3
      have g1 := q1 k l1
      have g2 := q2 k l2
      have g3 := q3 k l3
      clear q1 q2 q3
      have s1 := and_u8 xs[k] ms[k]
      have s2 := and_u8 zs[k] ms[k]
      by_cases hd : xs[k] &&& ms[k] = zs[k] &&& ms[k]
      · have t1 : (bits BinOp.and IntKind.u8 (xs[k].toNat : Int) (ms[k].toNat : Int) != bits BinOp.and IntKind.u8 (zs[k].toNat : Int) (ms[k].toNat : Int)) = false := by rw [s1, s2]; exact u8eqn hd
        have HD := Lib.hid hd
        clear hd s1 s2
        go_wp2
        go_quiet (fail)
        go_wp2
        go_roundw
        case rel =>
          refine ⟨k + 1, _, by omega, by go_num, rfl, fun j a1 a2 a3 hj => ?_⟩
          rcases Nat.lt_or_ge j k with h | h
          · exact HS.out j a1 a2 a3 h
          · obtain rfl : j = k := by omega
            exact HD.out
        case measure => simp [intOf]; omega
      · have t1 : (bits BinOp.and IntKind.u8 (xs[k].toNat : Int) (ms[k].toNat : Int) != bits BinOp.and IntKind.u8 (zs[k].toNat : Int) (ms[k].toNat : Int)) = true := by rw [s1, s2]; exact u8nen hd
        have HD := Lib.hid (show eqb (andL xs ms) (andL zs ms) = false from eqb_false (fun e => hd (by
          have e1 := andL_get xs ms k l1 l2 (h3 := by simp [andL]; omega)
          have e2 := andL_get zs ms k l3 l2 (h3 := by simp [andL]; omega)
          rw [← e1, ← e2]; congr 1)))
        clear hd s1 s2
        go_wp2
        go_quiet (fail)
        go_wp2
        go_ret
        exact ⟨ret_bool (by rw [← HR.out, HD.out]), r0 + nq, by rw [World.drewN_drewN]⟩
    · have HD := Lib.hid (show eqb (andL xs ms) (andL zs ms) = true from eqb_true (by
        apply List.ext_getElem
        · rw [andL_length _ _ (by rw [HX.out, HM.out]; exact Nat.le_refl _), andL_length _ _ (by rw [HZ.out, HM.out]; exact Nat.le_refl _), HX.out, HZ.out]
        · intro j a1 a2
          have b1 : j < 16 := by simp [andL] at a1; have := HX.out; omega
          rw [andL_get xs ms j (by rw [HX.out]; exact b1) (by rw [HM.out]; exact b1), andL_get zs ms j (by rw [HZ.out]; exact b1) (by rw [HM.out]; exact b1)]
          exact HS.out j _ _ _ (by omega)))
      go_wp2
      go_ret
      exact ⟨ret_bool (by rw [← HR.out, HD.out]), r0, rfl⟩

set_option maxHeartbeats 1000000 in
theorem implContains_16 (A M Z : Option Addr) (c d f : Nat) (xs ms zs : List UInt8) (w : World) (hx : xs.length = 16) (hms : ms.length = 16) (hz : zs.length = 16) (hmx : xs.take 12 ≠ mp) (hmz : zs.take 12 ≠ mp) (ha : Rd w A xs) (hm : Rd w M ms) (hz0 : Rd w Z zs)
    (r : Bool) (hr : eqb (andL xs ms) (andL zs ms) = r) :
    Calls Tryd.prog 16 #[.slice A 16 c, .slice M 16 d, .slice Z 16 f] w fun e w' => e = .returned (.bool r) ∧ Below w.heap.size w w' := by
  have HX := Lib.hid hx
  have HZ := Lib.hid hz
  have HM := Lib.hid hms
  have HMX := Lib.hid hmx
  have HMZ := Lib.hid hmz
  have HR := Lib.hid hr
  clear hx hz hms hr hmx hmz
  go_enter Tryd.func16, Tryd.ntmps16
  go_wp2_with fail
  refine (plain_any _ _ _ xs _ HX.out (by exact ha) (by decide)).mono ?_
  rintro e w1 ⟨A1, n1, c1, rfl, hn1, hown1, hb1⟩
  obtain rfl : n1 = 16 := by rw [← hn1]; exact HX.out
  clear hn1
  go_wp2_with fail
  refine (plain_any _ _ _ ms _ HM.out (by exact hm.below hb1) (by decide)).mono ?_
  rintro e w2 ⟨A2, n2, c2, rfl, hn2, hown2, hb2⟩
  obtain rfl : n2 = 16 := by rw [← hn2]; exact HM.out
  clear hn2
  have hb12 := hb1.trans (hb2.mono hb1.size)
  go_wp2_with fail
  refine (plain_any _ _ _ zs _ HZ.out (by exact (hz0.below hb12).alloc _) (by decide)).mono ?_
  rintro e w3 ⟨A3, n3, c3, rfl, hn3, hown3, hb3⟩
  obtain rfl : n3 = 16 := by rw [← hn3]; exact HZ.out
  clear hn3
  go_wp2_with fail
  refine (contains_16 _ A1 A2 A3 c1 c2 c3 xs ms zs _ ?h0 ?h1 HX.out HM.out HZ.out HMX.out HMZ.out (own_cap hown1) (own_cap hown3) ?ra ?rm (Rd.of_own (xs := zs) hown3) r HR.out).mono ?_
  case h0 => rw [hb3.cell (p := ⟨w2.heap.size, 0, none⟩) (by simp)]; simp
  case h1 => rw [hb3.cell (p := ⟨w2.heap.size, 1, none⟩) (by simp)]; simp
  case ra => exact (((Rd.of_own (xs := xs) hown1).below hb2).alloc _).below hb3
  case rm => exact ((Rd.of_own (xs := ms) hown2).alloc _).below hb3
  rintro e w4 ⟨rfl, k4, rfl⟩
  go_wp2
  go_ret
  exact ⟨rfl, below_drewN (hb12.trans (((Below.refl _ _).alloc (Nat.le_refl _) _).trans (hb3.mono (by simp)) |>.mono hb12.size)) _⟩
end Go.Proofs.YtkabdfmcflkkoaaDoor
