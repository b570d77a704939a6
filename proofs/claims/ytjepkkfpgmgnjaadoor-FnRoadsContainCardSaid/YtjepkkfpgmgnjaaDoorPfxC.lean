/-
  Contracts of (netip.Prefix).Contains and impl.RoadContains. No condition.
-/
import Derived.Test.YtjepkkfpgmgnjaaDoorU128
import Derived.Test.YtjepkkfpgmgnjaaDoorNetipSlice
import Derived.Test.YtjepkkfpgmgnjaaDoorIPString
import Derived.Deep.RegionHeld3
namespace Go.Proofs.YtjepkkfpgmgnjaaDoor
open Go.RowKit
set_option linter.unusedVariables false

theorem cells7 {s : Nat} {v v' : World} {a0 a1 a2 a3 b0 b1 b2 : Value} (h : v.cell? ⟨s, 0, none⟩ = some a0 ∧ v.cell? ⟨s, 1, none⟩ = some a1 ∧ v.cell? ⟨s, 2, none⟩ = some a2 ∧ v.cell? ⟨s, 3, none⟩ = some a3 ∧ v.cell? ⟨s + 1, 0, none⟩ = some b0 ∧ v.cell? ⟨s + 1, 1, none⟩ = some b1 ∧ v.cell? ⟨s + 1, 2, none⟩ = some b2) (hb : Below v.heap.size v v') (hs : s + 2 ≤ v.heap.size) :
    v'.cell? ⟨s, 0, none⟩ = some a0 ∧ v'.cell? ⟨s, 1, none⟩ = some a1 ∧ v'.cell? ⟨s, 2, none⟩ = some a2 ∧ v'.cell? ⟨s, 3, none⟩ = some a3 ∧ v'.cell? ⟨s + 1, 0, none⟩ = some b0 ∧ v'.cell? ⟨s + 1, 1, none⟩ = some b1 ∧ v'.cell? ⟨s + 1, 2, none⟩ = some b2 := by
  obtain ⟨h0, h1, h2, h3, k0, k1, k2⟩ := h
  exact ⟨(hb.cell (p := ⟨s, 0, none⟩) (by simp; omega)).trans h0, (hb.cell (p := ⟨s, 1, none⟩) (by simp; omega)).trans h1, (hb.cell (p := ⟨s, 2, none⟩) (by simp; omega)).trans h2, (hb.cell (p := ⟨s, 3, none⟩) (by simp; omega)).trans h3, (hb.cell (p := ⟨s + 1, 0, none⟩) (by simp; omega)).trans k0, (hb.cell (p := ⟨s + 1, 1, none⟩) (by simp; omega)).trans k1, (hb.cell (p := ⟨s + 1, 2, none⟩) (by simp; omega)).trans k2⟩
theorem ZF.drew {w : World} {p4 p6 : Addr} (h : ZF w p4 p6) : ZF w.drew p4 p6 := h.drewN 1
theorem and63 (n : Nat) (hn : n ≤ 32) : bits BinOp.and IntKind.i64 (32 - (n : Int)) 63 = 32 - (n : Int) := by
  have : ∀ k : Fin 33, bits BinOp.and IntKind.i64 (32 - ((k.val : Nat) : Int)) 63 = 32 - ((k.val : Nat) : Int) := by decide +kernel
  exact this ⟨n, by omega⟩

set_option maxRecDepth 100000 in
set_option maxHeartbeats 8000000 in
theorem contains_4 (lp la n : Nat) (p4 p6 : Addr) (w : World) (hz : ZF w p4 p6) (hn : n ≤ 32) (h1 : lp < 18446744073709551616) (h2 : la < 18446744073709551616) (r : Bool) (hr : decide ((la ^^^ lp) / 2 ^ (32 - n) % 4294967296 = 0) = r) :
    Calls Tryd.prog 41 #[pfxV 0 lp (some p4) (n + 1), addrV 0 la (some p4)] w fun e w' => e = .returned (.bool r) ∧ Below w.heap.size w w' := by
  have fv := fun (w : World) => pfxValid_any 0 lp (n + 1) (some p4) w (by omega) (by omega)
  have fb := fun (w : World) => pfxBits_any 0 lp n (some p4) w (by omega)
  have fh := fun (w : World) (hz : ZF w p4 p6) => hasZone_4 0 la p4 p6 w hz
  have fl1 := fun (w : World) (hz : ZF w p4 p6) => bitLen_4 0 lp p4 p6 w hz
  have fl2 := fun (w : World) (hz : ZF w p4 p6) => bitLen_4 0 la p4 p6 w hz
  have f4 := fun (w : World) (hz : ZF w p4 p6) => is4_4 0 la p4 p6 w hz
  have e1 := u64_xor_nat la lp h2 h1
  have HR := Lib.hid hr
  clear hr
  have hx : la ^^^ lp < 18446744073709551616 := Nat.xor_lt_two_pow (n := 64) h2 h1
  generalize la ^^^ lp = X at e1 HR hx
  unfold addrV at fh fl1 fl2 f4 ⊢
  unfold pfxV at fv fb ⊢
  have FV := Lib.hid fv
  have FB := Lib.hid fb
  have FH := Lib.hid fh
  have FL1 := Lib.hid fl1
  have FL2 := Lib.hid fl2
  have F4 := Lib.hid f4
  clear fv fb fh fl1 fl2 f4
  go_enter Tryd.func41, Tryd.ntmps41
  go_wp2_with fail
  refine (FV.out _).mono ?_
  rintro e w1 ⟨rfl, hb1⟩
  have hs1 := hb1.size
  simp at hs1
  have bA : Below w.heap.size w w1 := (((Below.refl w.heap.size w).alloc (Nat.le_refl _) _).alloc (by simp) _).trans (hb1.mono (by simp; omega))
  have c0 := (hb1.cell (p := ⟨w.heap.size, 0, none⟩) (by simp; omega))
  have c1 := (hb1.cell (p := ⟨w.heap.size, 1, none⟩) (by simp; omega))
  have c2 := (hb1.cell (p := ⟨w.heap.size, 2, none⟩) (by simp; omega))
  have c3 := (hb1.cell (p := ⟨w.heap.size, 3, none⟩) (by simp; omega))
  have d0 := (hb1.cell (p := ⟨w.heap.size + 1, 0, none⟩) (by simp))
  have d1 := (hb1.cell (p := ⟨w.heap.size + 1, 1, none⟩) (by simp))
  have d2 := (hb1.cell (p := ⟨w.heap.size + 1, 2, none⟩) (by simp))
  simp at c0 c1 c2 c3 d0 d1 d2
  go_wp2_with fail
  refine (FH.out _ (hz.below bA)).mono ?_
  rintro e w2 ⟨rfl, hb2⟩
  have hs2 := hb2.size
  have bB : Below w.heap.size w w2 := bA.trans (hb2.mono (by omega))
  have C2 := Lib.hid (cells7 ⟨c0, c1, c2, c3, d0, d1, d2⟩ hb2 hs1)
  have z2 : w.heap.size + 2 ≤ w2.heap.size := by omega
  clear c0 c1 c2 c3 d0 d1 d2
  go_wp2
  have tok1 : True := trivial
  go_region_held3 (fun (v : World) => v.cell? ⟨w.heap.size, 0, none⟩ = some (.int .u64 0) ∧ v.cell? ⟨w.heap.size, 1, none⟩ = some (.int .u64 (lp : Int)) ∧ v.cell? ⟨w.heap.size, 2, none⟩ = some (.pointer (some p4)) ∧ v.cell? ⟨w.heap.size, 3, none⟩ = some (.int .u8 ((n : Int) + 1)) ∧ v.cell? ⟨w.heap.size + 1, 0, none⟩ = some (.int .u64 0) ∧ v.cell? ⟨w.heap.size + 1, 1, none⟩ = some (.int .u64 (la : Int)) ∧ v.cell? ⟨w.heap.size + 1, 2, none⟩ = some (.pointer (some p4))) (first | exact C2.out | exact C3.out | exact C4.out) ((first
    | (go_at_call 61; have _t := tok1; refine (FL1.out _ (hz.below bB).drew).mono ?_; rintro e w3 ⟨rfl, k3⟩; have hb3 : Below w2.heap.size w2 w3 := below_undrew k3; have C3 := Lib.hid (cells7 C2.out hb3 z2); have z3 : w.heap.size + 2 ≤ w3.heap.size := Nat.le_trans z2 hb3.size; have bC := bB.trans (hb3.mono bB.size); clear tok1 _t)
    | (go_at_call 61; refine (FL2.out _ (hz.below bC)).mono ?_; rintro e w4 ⟨rfl, hb4⟩; have C4 := Lib.hid (cells7 C3.out hb4 z3); have z4 : w.heap.size + 2 ≤ w4.heap.size := Nat.le_trans z3 hb4.size; have bD := bC.trans (hb4.mono bC.size))))
  clear C2 C3
  obtain ⟨c0, c1, c2, c3, d0, d1, d2⟩ := C4.out
  go_wp2_with fail
  refine (F4.out _ (hz.below bD)).mono ?_
  rintro e w5 ⟨rfl, hb5⟩
  have C5 := Lib.hid (cells7 C4.out hb5 z4)
  have z5 : w.heap.size + 2 ≤ w5.heap.size := Nat.le_trans z4 hb5.size
  have bE := bD.trans (hb5.mono bD.size)
  clear c0 c1 c2 c3 d0 d1 d2 C4
  have u1 : IntKind.i64.wrap (32 - (n : Int)) = 32 - (n : Int) := IntWalk.i64_in _ (by omega)
  have u2 := and63 n hn
  have u3 : 0 ≤ 32 - (n : Int) := by omega
  have u4 : (32 - (n : Int)).toNat = 32 - n := by omega
  go_wp2
  go_region_held3 (fun (v : World) => v.cell? ⟨w.heap.size, 0, none⟩ = some (.int .u64 0) ∧ v.cell? ⟨w.heap.size, 1, none⟩ = some (.int .u64 (lp : Int)) ∧ v.cell? ⟨w.heap.size, 2, none⟩ = some (.pointer (some p4)) ∧ v.cell? ⟨w.heap.size, 3, none⟩ = some (.int .u8 ((n : Int) + 1)) ∧ v.cell? ⟨w.heap.size + 1, 0, none⟩ = some (.int .u64 0) ∧ v.cell? ⟨w.heap.size + 1, 1, none⟩ = some (.int .u64 (la : Int)) ∧ v.cell? ⟨w.heap.size + 1, 2, none⟩ = some (.pointer (some p4))) (first | exact C5.out | exact C6.out) ((first
    | (go_at_call 65; refine (FB.out _).mono ?_; rintro e w6 ⟨rfl, k6⟩; have hb6 : Below w5.heap.size w5 w6 := below_undrew k6; have C6 := Lib.hid (cells7 C5.out hb6 z5); have bF := bE.trans (hb6.mono bE.size))))
  clear u1 u2 u4
  go_wp2
  go_ret
  refine ⟨ret_bool ?_, bF⟩
  rw [← HR.out]
  have h2 : ((X / 2 ^ (32 - n) : Nat) : Int) = (X : Int) / 2 ^ (32 - n) := by simp
  rw [← h2, IntKind.wrap_u32]
  generalize X / 2 ^ (32 - n) = Y
  rw [Bool.eq_iff_iff]
  simp only [beq_iff_eq, decide_eq_true_eq]
  omega

set_option maxRecDepth 100000 in
set_option maxHeartbeats 8000000 in
theorem contains_6 (hp lp ha la n : Nat) (p4 p6 : Addr) (w : World) (hz : ZF w p4 p6) (hn : n ≤ 128) (h0 : hp < 18446744073709551616) (h1 : lp < 18446744073709551616) (h3 : ha < 18446744073709551616) (h2 : la < 18446744073709551616) (r : Bool) (hr : decide ((ha ^^^ hp) / 2 ^ (64 - n) = 0 ∧ (la ^^^ lp) / 2 ^ (128 - n) = 0) = r) :
    Calls Tryd.prog 41 #[pfxV hp lp (some p6) (n + 1), addrV ha la (some p6)] w fun e w' => e = .returned (.bool r) ∧ Below w.heap.size w w' := by
  have fv := fun (w : World) => pfxValid_any hp lp (n + 1) (some p6) w (by omega) (by omega)
  have fb := fun (w : World) => pfxBits_any hp lp n (some p6) w (by omega)
  have fh := fun (w : World) (hz : ZF w p4 p6) => hasZone_6 ha la p4 p6 w hz
  have fl1 := fun (w : World) (hz : ZF w p4 p6) => bitLen_6 hp lp p4 p6 w hz
  have fl2 := fun (w : World) (hz : ZF w p4 p6) => bitLen_6 ha la p4 p6 w hz
  have f4 := fun (w : World) (hz : ZF w p4 p6) => is4_6 ha la p4 p6 w hz
  have HR := Lib.hid (show decide ((ha ^^^ hp) &&& mHi n = 0 ∧ (la ^^^ lp) &&& mLo n = 0) = r by
    rw [← hr, decide_eq_decide, mHi_and _ _ (Nat.xor_lt_two_pow (n := 64) h3 h0), mLo_and _ _ (Nat.xor_lt_two_pow (n := 64) h2 h1)])
  have fx := fun (w : World) => xor128 ha la hp lp w h3 h2 h0 h1
  have fa := fun (w : World) => and128 (ha ^^^ hp) (la ^^^ lp) (mHi n) (mLo n) w (Nat.xor_lt_two_pow (n := 64) h3 h0) (Nat.xor_lt_two_pow (n := 64) h2 h1) (mHi_lt n) (mLo_lt n)
  have fm := fun (w : World) => mask6_any n w hn
  have fz := fun (w : World) => zero128 ((ha ^^^ hp) &&& mHi n) ((la ^^^ lp) &&& mLo n) w (Nat.lt_of_le_of_lt Nat.and_le_right (mHi_lt n)) (Nat.lt_of_le_of_lt Nat.and_le_right (mLo_lt n)) r HR.out
  clear hr
  generalize (ha ^^^ hp) &&& mHi n = Y1 at fa fz
  generalize (la ^^^ lp) &&& mLo n = Y2 at fa fz
  generalize ha ^^^ hp = X1 at fx fa
  generalize la ^^^ lp = X2 at fx fa
  generalize mHi n = M1 at fa fm
  generalize mLo n = M2 at fa fm
  unfold u128V at fx fa fm fz
  have FX := Lib.hid fx
  have FA := Lib.hid fa
  have FM := Lib.hid fm
  have FZ := Lib.hid fz
  clear fx fa fm fz HR
  unfold addrV at fh fl1 fl2 f4 ⊢
  unfold pfxV at fv fb ⊢
  have FV := Lib.hid fv
  have FB := Lib.hid fb
  have FH := Lib.hid fh
  have FL1 := Lib.hid fl1
  have FL2 := Lib.hid fl2
  have F4 := Lib.hid f4
  clear fv fb fh fl1 fl2 f4
  go_enter Tryd.func41, Tryd.ntmps41
  go_wp2_with fail
  refine (FV.out _).mono ?_
  rintro e w1 ⟨rfl, hb1⟩
  have hs1 := hb1.size
  simp at hs1
  have bA : Below w.heap.size w w1 := (((Below.refl w.heap.size w).alloc (Nat.le_refl _) _).alloc (by simp) _).trans (hb1.mono (by simp; omega))
  have c0 := (hb1.cell (p := ⟨w.heap.size, 0, none⟩) (by simp; omega))
  have c1 := (hb1.cell (p := ⟨w.heap.size, 1, none⟩) (by simp; omega))
  have c2 := (hb1.cell (p := ⟨w.heap.size, 2, none⟩) (by simp; omega))
  have c3 := (hb1.cell (p := ⟨w.heap.size, 3, none⟩) (by simp; omega))
  have d0 := (hb1.cell (p := ⟨w.heap.size + 1, 0, none⟩) (by simp))
  have d1 := (hb1.cell (p := ⟨w.heap.size + 1, 1, none⟩) (by simp))
  have d2 := (hb1.cell (p := ⟨w.heap.size + 1, 2, none⟩) (by simp))
  simp at c0 c1 c2 c3 d0 d1 d2
  go_wp2_with fail
  refine (FH.out _ (hz.below bA)).mono ?_
  rintro e w2 ⟨rfl, hb2⟩
  have hs2 := hb2.size
  have bB : Below w.heap.size w w2 := bA.trans (hb2.mono (by omega))
  have C2 := Lib.hid (cells7 ⟨c0, c1, c2, c3, d0, d1, d2⟩ hb2 hs1)
  have z2 : w.heap.size + 2 ≤ w2.heap.size := by omega
  clear c0 c1 c2 c3 d0 d1 d2
  go_wp2
  have tok1 : True := trivial
  go_region_held3 (fun (v : World) => v.cell? ⟨w.heap.size, 0, none⟩ = some (.int .u64 (hp : Int)) ∧ v.cell? ⟨w.heap.size, 1, none⟩ = some (.int .u64 (lp : Int)) ∧ v.cell? ⟨w.heap.size, 2, none⟩ = some (.pointer (some p6)) ∧ v.cell? ⟨w.heap.size, 3, none⟩ = some (.int .u8 ((n : Int) + 1)) ∧ v.cell? ⟨w.heap.size + 1, 0, none⟩ = some (.int .u64 (ha : Int)) ∧ v.cell? ⟨w.heap.size + 1, 1, none⟩ = some (.int .u64 (la : Int)) ∧ v.cell? ⟨w.heap.size + 1, 2, none⟩ = some (.pointer (some p6))) (first | exact C2.out | exact C3.out | exact C4.out) ((first
    | (go_at_call 61; have _t := tok1; refine (FL1.out _ (hz.below bB).drew).mono ?_; rintro e w3 ⟨rfl, k3⟩; have hb3 : Below w2.heap.size w2 w3 := below_undrew k3; have C3 := Lib.hid (cells7 C2.out hb3 z2); have z3 : w.heap.size + 2 ≤ w3.heap.size := Nat.le_trans z2 hb3.size; have bC := bB.trans (hb3.mono bB.size); clear tok1 _t)
    | (go_at_call 61; refine (FL2.out _ (hz.below bC)).mono ?_; rintro e w4 ⟨rfl, hb4⟩; have C4 := Lib.hid (cells7 C3.out hb4 z3); have z4 : w.heap.size + 2 ≤ w4.heap.size := Nat.le_trans z3 hb4.size; have bD := bC.trans (hb4.mono bC.size))))
  clear C2 C3
  obtain ⟨c0, c1, c2, c3, d0, d1, d2⟩ := C4.out
  go_wp2_with fail
  refine (F4.out _ (hz.below bD)).mono ?_
  rintro e w5 ⟨rfl, hb5⟩
  have C5 := Lib.hid (cells7 C4.out hb5 z4)
  have z5 : w.heap.size + 2 ≤ w5.heap.size := Nat.le_trans z4 hb5.size
  have bE := bD.trans (hb5.mono bD.size)
  clear c0 c1 c2 c3 d0 d1 d2 C4
  go_wp2
  go_region_held3 (fun (v : World) => v.cell? ⟨w.heap.size, 0, none⟩ = some (.int .u64 (hp : Int)) ∧ v.cell? ⟨w.heap.size, 1, none⟩ = some (.int .u64 (lp : Int)) ∧ v.cell? ⟨w.heap.size, 2, none⟩ = some (.pointer (some p6)) ∧ v.cell? ⟨w.heap.size, 3, none⟩ = some (.int .u8 ((n : Int) + 1)) ∧ v.cell? ⟨w.heap.size + 1, 0, none⟩ = some (.int .u64 (ha : Int)) ∧ v.cell? ⟨w.heap.size + 1, 1, none⟩ = some (.int .u64 (la : Int)) ∧ v.cell? ⟨w.heap.size + 1, 2, none⟩ = some (.pointer (some p6))) (first | exact C5.out | exact C6.out | exact C7.out | exact C8.out | exact C9.out | exact CA.out) ((first
    | (go_at_call 66; refine (FX.out _).mono ?_; rintro e w6 ⟨rfl, k6⟩; have hb6 : Below w5.heap.size w5 w6 := below_undrew k6; have C6 := Lib.hid (cells7 C5.out hb6 z5); have z6 : w.heap.size + 2 ≤ w6.heap.size := Nat.le_trans z5 hb6.size; have bF := bE.trans (hb6.mono bE.size))
    | (go_at_call 65; refine (FB.out _).mono ?_; rintro e w7 ⟨rfl, hb7⟩; have C7 := Lib.hid (cells7 C6.out hb7 z6); have z7 : w.heap.size + 2 ≤ w7.heap.size := Nat.le_trans z6 hb7.size; have bG := bF.trans (hb7.mono bF.size))
    | (go_at_call 68; refine (FM.out _).mono ?_; rintro e w8 ⟨rfl, hb8⟩; have C8 := Lib.hid (cells7 C7.out hb8 z7); have z8 : w.heap.size + 2 ≤ w8.heap.size := Nat.le_trans z7 hb8.size; have bH := bG.trans (hb8.mono bG.size))
    | (go_at_call 67; refine (FA.out _).mono ?_; rintro e w9 ⟨rfl, hb9⟩; have C9 := Lib.hid (cells7 C8.out hb9 z8); have z9 : w.heap.size + 2 ≤ w9.heap.size := Nat.le_trans z8 hb9.size; have bI := bH.trans (hb9.mono bH.size))
    | (go_at_call 69; refine (FZ.out _).mono ?_; rintro e wA ⟨rfl, hbA⟩; have CA := Lib.hid (cells7 C9.out hbA z9); have bJ := bI.trans (hbA.mono bI.size))))
  go_wp2
  go_ret
  exact ⟨rfl, bJ⟩
theorem cells43 {s t : Nat} {v v' : World} {a0 a1 a2 a3 b0 b1 b2 : Value} (h : v.cell? ⟨s, 0, none⟩ = some a0 ∧ v.cell? ⟨s, 1, none⟩ = some a1 ∧ v.cell? ⟨s, 2, none⟩ = some a2 ∧ v.cell? ⟨s, 3, none⟩ = some a3 ∧ v.cell? ⟨t, 0, none⟩ = some b0 ∧ v.cell? ⟨t, 1, none⟩ = some b1 ∧ v.cell? ⟨t, 2, none⟩ = some b2) (hb : Below v.heap.size v v') (hs : s < v.heap.size) (ht : t < v.heap.size) :
    v'.cell? ⟨s, 0, none⟩ = some a0 ∧ v'.cell? ⟨s, 1, none⟩ = some a1 ∧ v'.cell? ⟨s, 2, none⟩ = some a2 ∧ v'.cell? ⟨s, 3, none⟩ = some a3 ∧ v'.cell? ⟨t, 0, none⟩ = some b0 ∧ v'.cell? ⟨t, 1, none⟩ = some b1 ∧ v'.cell? ⟨t, 2, none⟩ = some b2 := by
  obtain ⟨h0, h1, h2, h3, k0, k1, k2⟩ := h
  exact ⟨(hb.cell (p := ⟨s, 0, none⟩) hs).trans h0, (hb.cell (p := ⟨s, 1, none⟩) hs).trans h1, (hb.cell (p := ⟨s, 2, none⟩) hs).trans h2, (hb.cell (p := ⟨s, 3, none⟩) hs).trans h3, (hb.cell (p := ⟨t, 0, none⟩) ht).trans k0, (hb.cell (p := ⟨t, 1, none⟩) ht).trans k1, (hb.cell (p := ⟨t, 2, none⟩) ht).trans k2⟩
theorem lo4_lt (xs : List UInt8) (h : xs.length = 4) : lo4 xs < 18446744073709551616 := by
  have := be_lt xs
  rw [h] at this
  unfold lo4
  omega
theorem contains4_val (xs ys : List UInt8) (n : Nat) (hx : xs.length = 4) (hy : ys.length = 4) (hn : n ≤ 32) : decide ((lo4 xs ^^^ lo4 ys) / 2 ^ (32 - n) % 4294967296 = 0) = pfx xs ys n := by
  have bx := be_lt xs
  have b_y := be_lt ys
  rw [hx] at bx
  rw [hy] at b_y
  have e : lo4 xs ^^^ lo4 ys = be xs ^^^ be ys := by
    apply Nat.eq_of_testBit_eq
    intro j
    have e1 : lo4 xs = 2 ^ 32 * 65535 + be xs := by unfold lo4; omega
    have e2 : lo4 ys = 2 ^ 32 * 65535 + be ys := by unfold lo4; omega
    rw [e1, e2, Nat.testBit_xor, Nat.testBit_xor, Nat.testBit_two_pow_mul_add _ bx, Nat.testBit_two_pow_mul_add _ b_y]
    by_cases h : j < 32
    · rw [if_pos h, if_pos h]
    · rw [if_neg h, if_neg h, Nat.testBit_lt_two_pow (Nat.lt_of_lt_of_le bx (Nat.pow_le_pow_right (by decide) (by omega))), Nat.testBit_lt_two_pow (Nat.lt_of_lt_of_le b_y (Nat.pow_le_pow_right (by decide) (by omega)))]
      simp
  have hX : be xs ^^^ be ys < 2 ^ 32 := Nat.xor_lt_two_pow bx b_y
  rw [e, Nat.mod_eq_of_lt (Nat.lt_of_le_of_lt (Nat.div_le_self _ _) hX), Bool.eq_iff_iff, decide_eq_true_eq]
  exact pfx_num xs ys 4 n hx hy hn

set_option maxRecDepth 100000 in
set_option maxHeartbeats 8000000 in
theorem roadC_4 (A B : Option Addr) (c d n : Nat) (xs ys : List UInt8) (p4 p6 : Addr) (w : World) (hz : ZF w p4 p6) (hx : xs.length = 4) (hy : ys.length = 4) (ha : Rd w A xs) (hb : Rd w B ys) (hn : n ≤ 32) :
    Calls Tryd.prog 22 #[.slice A 4 c, .int .i64 (n : Int), .slice B 4 d] w fun e w' => e = .returned (.tuple #[.bool (pfx ys xs n), .bool true]) ∧ Below w.heap.size w w' := by
  have fs1 := fun (w : World) (ha : Rd w A xs) (hz : ZF w p4 p6) => fromSlice_4 A c xs p4 p6 w hx ha hz
  have fs2 := fun (w : World) (ha : Rd w B ys) (hz : ZF w p4 p6) => fromSlice_4 B d ys p4 p6 w hy ha hz
  have fp := fun (w : World) (hz : ZF w p4 p6) => prefixFrom_4 0 (lo4 xs) n p4 p6 w hz hn
  have fv := fun (w : World) => pfxValid_any 0 (lo4 xs) (n + 1) (some p4) w (by omega) (by omega)
  have hx4 := lo4_lt xs hx
  have hy4 := lo4_lt ys hy
  have fc := fun (w : World) (hz : ZF w p4 p6) => contains_4 (lo4 xs) (lo4 ys) n p4 p6 w hz hn hx4 hy4 (pfx ys xs n) (contains4_val ys xs n hy hx hn)
  generalize lo4 xs = l1 at fs1 fp fc fv
  generalize lo4 ys = l2 at fs2 fc
  generalize pfx ys xs n = R at fc ⊢
  unfold addrV at fs1 fs2 fp fc
  unfold pfxV at fp fc fv
  have FS1 := Lib.hid fs1
  have FS2 := Lib.hid fs2
  have FP := Lib.hid fp
  have FV := Lib.hid fv
  have FC := Lib.hid fc
  clear fs1 fs2 fp fv fc hx hy
  go_enter Tryd.func22, Tryd.ntmps22
  go_wp2_with fail
  refine (FS1.out _ (by exact ha) hz).mono ?_
  rintro e w1 ⟨rfl, hb1⟩
  have b2 : Below w.heap.size w (w1.alloc (.cells #[.int .u64 0, .int .u64 (l1 : Int), .pointer (some p4)] 60)) := hb1.alloc hb1.size _
  go_wp2_with fail
  refine (FS2.out _ (by exact hb.below b2) (hz.below b2)).mono ?_
  rintro e w3 ⟨rfl, hb3⟩
  have hs3 := hb3.size
  simp at hs3
  have b3 := b2.trans (hb3.mono b2.size)
  have b4 : Below w.heap.size w (w3.alloc (.cells #[.int .u64 0, .int .u64 (l2 : Int), .pointer (some p4)] 60)) := b3.alloc b3.size _
  have c0 := (hb3.cell (p := ⟨w1.heap.size, 0, none⟩) (by simp))
  have c1 := (hb3.cell (p := ⟨w1.heap.size, 1, none⟩) (by simp))
  have c2 := (hb3.cell (p := ⟨w1.heap.size, 2, none⟩) (by simp))
  simp at c0 c1 c2
  have hle13 : w1.heap.size < w3.heap.size := by omega
  go_wp2_with fail
  refine (FP.out _ (hz.below b4)).mono ?_
  rintro e w5 ⟨rfl, hb5⟩
  have hs5 := hb5.size
  simp at hs5
  have b5 := b4.trans (hb5.mono b4.size)
  have d0 := (hb5.cell (p := ⟨w3.heap.size, 0, none⟩) (by simp))
  have d1 := (hb5.cell (p := ⟨w3.heap.size, 1, none⟩) (by simp))
  have d2 := (hb5.cell (p := ⟨w3.heap.size, 2, none⟩) (by simp))
  simp at d0 d1 d2
  have hle35 : w3.heap.size < w5.heap.size := by omega
  clear c0 c1 c2
  go_wp2
  obtain ⟨W, hW⟩ : ∃ W : World, W = w5.alloc (.cells #[.int .u64 0, .int .u64 (l1 : Int), .pointer (some p4), .int .u8 ((n : Int) + 1)] 64) := ⟨_, rfl⟩
  have bW : Below w.heap.size w W := by rw [hW]; exact b5.alloc b5.size _
  have C0 := Lib.hid (show W.cell? ⟨w5.heap.size, 0, none⟩ = some (.int .u64 0) ∧ W.cell? ⟨w5.heap.size, 1, none⟩ = some (.int .u64 (l1 : Int)) ∧ W.cell? ⟨w5.heap.size, 2, none⟩ = some (.pointer (some p4)) ∧ W.cell? ⟨w5.heap.size, 3, none⟩ = some (.int .u8 ((n : Int) + 1)) ∧ W.cell? ⟨w3.heap.size, 0, none⟩ = some (.int .u64 0) ∧ W.cell? ⟨w3.heap.size, 1, none⟩ = some (.int .u64 (l2 : Int)) ∧ W.cell? ⟨w3.heap.size, 2, none⟩ = some (.pointer (some p4)) from by
    have hk := (Below.refl w5.heap.size w5).alloc (Nat.le_refl _) (.cells #[.int .u64 0, .int .u64 (l1 : Int), .pointer (some p4), .int .u8 ((n : Int) + 1)] 64)
    rw [hW]
    exact ⟨by simp, by simp, by simp, by simp, (hk.cell (p := ⟨w3.heap.size, 0, none⟩) hle35).trans d0, (hk.cell (p := ⟨w3.heap.size, 1, none⟩) hle35).trans d1, (hk.cell (p := ⟨w3.heap.size, 2, none⟩) hle35).trans d2⟩)
  have hWs : w5.heap.size < W.heap.size := by rw [hW]; simp
  rw [← hW]
  clear hW d0 d1 d2
  go_region_held3 (fun (v : World) => v.cell? ⟨w5.heap.size, 0, none⟩ = some (.int .u64 0) ∧ v.cell? ⟨w5.heap.size, 1, none⟩ = some (.int .u64 (l1 : Int)) ∧ v.cell? ⟨w5.heap.size, 2, none⟩ = some (.pointer (some p4)) ∧ v.cell? ⟨w5.heap.size, 3, none⟩ = some (.int .u8 ((n : Int) + 1)) ∧ v.cell? ⟨w3.heap.size, 0, none⟩ = some (.int .u64 0) ∧ v.cell? ⟨w3.heap.size, 1, none⟩ = some (.int .u64 (l2 : Int)) ∧ v.cell? ⟨w3.heap.size, 2, none⟩ = some (.pointer (some p4))) (first | exact C0.out | exact C1.out | exact C2.out) ((first
    | (go_at_call 41; refine (FC.out _ (hz.below bW).drew).mono ?_; rintro e w6 ⟨rfl, k6⟩; have hb6 : Below W.heap.size W w6 := below_undrew k6; have C1 := Lib.hid (cells43 C0.out hb6 hWs (by omega)); have b6 := bW.trans (hb6.mono bW.size); have hW6 : w5.heap.size < w6.heap.size := Nat.lt_of_lt_of_le hWs hb6.size)
    | (go_at_call 42; refine (FV.out _).mono ?_; rintro e w7 ⟨rfl, hb7⟩; have C2 := Lib.hid (cells43 C1.out hb7 hW6 (by omega)); have b7 := b6.trans (hb7.mono b6.size))))
  go_wp2
  go_ret2
  exact ⟨rfl, b7⟩

set_option maxRecDepth 100000 in
set_option maxHeartbeats 8000000 in
theorem roadC_6 (A B : Option Addr) (c d n : Nat) (xs ys : List UInt8) (p4 p6 : Addr) (w : World) (hz : ZF w p4 p6) (hx : xs.length = 16) (hy : ys.length = 16) (ha : Rd w A xs) (hb : Rd w B ys) (hn : n ≤ 128) :
    Calls Tryd.prog 22 #[.slice A 16 c, .int .i64 (n : Int), .slice B 16 d] w fun e w' => e = .returned (.tuple #[.bool (pfx ys xs n), .bool true]) ∧ Below w.heap.size w w' := by
  have fs1 := fun (w : World) (ha : Rd w A xs) (hz : ZF w p4 p6) => fromSlice_16 A c xs p4 p6 w hx ha hz
  have fs2 := fun (w : World) (ha : Rd w B ys) (hz : ZF w p4 p6) => fromSlice_16 B d ys p4 p6 w hy ha hz
  have fp := fun (w : World) (hz : ZF w p4 p6) => prefixFrom_6 (be (xs.take 8)) ((be (xs.drop 8))) n p4 p6 w hz hn
  have fv := fun (w : World) => pfxValid_any (be (xs.take 8)) ((be (xs.drop 8))) (n + 1) (some p6) w (by omega) (by omega)
  have fc := fun (w : World) (hz : ZF w p4 p6) => contains_6 (be (xs.take 8)) (be (xs.drop 8)) (be (ys.take 8)) (be (ys.drop 8)) n p4 p6 w hz hn (be8_lt _ (by simp [hx])) (be8_lt _ (by simp [hx])) (be8_lt _ (by simp [hy])) (be8_lt _ (by simp [hy])) (pfx ys xs n) (by rw [Bool.eq_iff_iff, decide_eq_true_eq]; exact pfx_halves ys xs n hy hx hn)
  generalize be (xs.take 8) = k1 at fs1 fp fc fv
  generalize be (xs.drop 8) = l1 at fs1 fp fc fv
  generalize be (ys.take 8) = k2 at fs2 fc
  generalize be (ys.drop 8) = l2 at fs2 fc
  generalize pfx ys xs n = R at fc ⊢
  unfold addrV at fs1 fs2 fp fc
  unfold pfxV at fp fc fv
  have FS1 := Lib.hid fs1
  have FS2 := Lib.hid fs2
  have FP := Lib.hid fp
  have FV := Lib.hid fv
  have FC := Lib.hid fc
  clear fs1 fs2 fp fv fc hx hy
  go_enter Tryd.func22, Tryd.ntmps22
  go_wp2_with fail
  refine (FS1.out _ (by exact ha) hz).mono ?_
  rintro e w1 ⟨rfl, hb1⟩
  have b2 : Below w.heap.size w (w1.alloc (.cells #[.int .u64 (k1 : Int), .int .u64 (l1 : Int), .pointer (some p6)] 60)) := hb1.alloc hb1.size _
  go_wp2_with fail
  refine (FS2.out _ (by exact hb.below b2) (hz.below b2)).mono ?_
  rintro e w3 ⟨rfl, hb3⟩
  have hs3 := hb3.size
  simp at hs3
  have b3 := b2.trans (hb3.mono b2.size)
  have b4 : Below w.heap.size w (w3.alloc (.cells #[.int .u64 (k2 : Int), .int .u64 (l2 : Int), .pointer (some p6)] 60)) := b3.alloc b3.size _
  have c0 := (hb3.cell (p := ⟨w1.heap.size, 0, none⟩) (by simp))
  have c1 := (hb3.cell (p := ⟨w1.heap.size, 1, none⟩) (by simp))
  have c2 := (hb3.cell (p := ⟨w1.heap.size, 2, none⟩) (by simp))
  simp at c0 c1 c2
  have hle13 : w1.heap.size < w3.heap.size := by omega
  go_wp2_with fail
  refine (FP.out _ (hz.below b4)).mono ?_
  rintro e w5 ⟨rfl, hb5⟩
  have hs5 := hb5.size
  simp at hs5
  have b5 := b4.trans (hb5.mono b4.size)
  have d0 := (hb5.cell (p := ⟨w3.heap.size, 0, none⟩) (by simp))
  have d1 := (hb5.cell (p := ⟨w3.heap.size, 1, none⟩) (by simp))
  have d2 := (hb5.cell (p := ⟨w3.heap.size, 2, none⟩) (by simp))
  simp at d0 d1 d2
  have hle35 : w3.heap.size < w5.heap.size := by omega
  clear c0 c1 c2
  go_wp2
  obtain ⟨W, hW⟩ : ∃ W : World, W = w5.alloc (.cells #[.int .u64 (k1 : Int), .int .u64 (l1 : Int), .pointer (some p6), .int .u8 ((n : Int) + 1)] 64) := ⟨_, rfl⟩
  have bW : Below w.heap.size w W := by rw [hW]; exact b5.alloc b5.size _
  have C0 := Lib.hid (show W.cell? ⟨w5.heap.size, 0, none⟩ = some (.int .u64 (k1 : Int)) ∧ W.cell? ⟨w5.heap.size, 1, none⟩ = some (.int .u64 (l1 : Int)) ∧ W.cell? ⟨w5.heap.size, 2, none⟩ = some (.pointer (some p6)) ∧ W.cell? ⟨w5.heap.size, 3, none⟩ = some (.int .u8 ((n : Int) + 1)) ∧ W.cell? ⟨w3.heap.size, 0, none⟩ = some (.int .u64 (k2 : Int)) ∧ W.cell? ⟨w3.heap.size, 1, none⟩ = some (.int .u64 (l2 : Int)) ∧ W.cell? ⟨w3.heap.size, 2, none⟩ = some (.pointer (some p6)) from by
    have hk := (Below.refl w5.heap.size w5).alloc (Nat.le_refl _) (.cells #[.int .u64 (k1 : Int), .int .u64 (l1 : Int), .pointer (some p6), .int .u8 ((n : Int) + 1)] 64)
    rw [hW]
    exact ⟨by simp, by simp, by simp, by simp, (hk.cell (p := ⟨w3.heap.size, 0, none⟩) hle35).trans d0, (hk.cell (p := ⟨w3.heap.size, 1, none⟩) hle35).trans d1, (hk.cell (p := ⟨w3.heap.size, 2, none⟩) hle35).trans d2⟩)
  have hWs : w5.heap.size < W.heap.size := by rw [hW]; simp
  rw [← hW]
  clear hW d0 d1 d2
  go_region_held3 (fun (v : World) => v.cell? ⟨w5.heap.size, 0, none⟩ = some (.int .u64 (k1 : Int)) ∧ v.cell? ⟨w5.heap.size, 1, none⟩ = some (.int .u64 (l1 : Int)) ∧ v.cell? ⟨w5.heap.size, 2, none⟩ = some (.pointer (some p6)) ∧ v.cell? ⟨w5.heap.size, 3, none⟩ = some (.int .u8 ((n : Int) + 1)) ∧ v.cell? ⟨w3.heap.size, 0, none⟩ = some (.int .u64 (k2 : Int)) ∧ v.cell? ⟨w3.heap.size, 1, none⟩ = some (.int .u64 (l2 : Int)) ∧ v.cell? ⟨w3.heap.size, 2, none⟩ = some (.pointer (some p6))) (first | exact C0.out | exact C1.out | exact C2.out) ((first
    | (go_at_call 41; refine (FC.out _ (hz.below bW).drew).mono ?_; rintro e w6 ⟨rfl, k6⟩; have hb6 : Below W.heap.size W w6 := below_undrew k6; have C1 := Lib.hid (cells43 C0.out hb6 hWs (by omega)); have b6 := bW.trans (hb6.mono bW.size); have hW6 : w5.heap.size < w6.heap.size := Nat.lt_of_lt_of_le hWs hb6.size)
    | (go_at_call 42; refine (FV.out _).mono ?_; rintro e w7 ⟨rfl, hb7⟩; have C2 := Lib.hid (cells43 C1.out hb7 hW6 (by omega)); have b7 := b6.trans (hb7.mono b6.size))))
  go_wp2
  go_ret2
  exact ⟨rfl, b7⟩
end Go.Proofs.YtjepkkfpgmgnjaaDoor
