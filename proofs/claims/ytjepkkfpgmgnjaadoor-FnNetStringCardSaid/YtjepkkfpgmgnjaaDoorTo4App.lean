/-
  Contract of (netip.Addr).appendTo4: dotted decimal behind the buffer. No condition.
-/
import Derived.Test.YtjepkkfpgmgnjaaDoorNetipSlice
namespace Go.Proofs.YtjepkkfpgmgnjaaDoor
open Go.RowKit
set_option linter.unusedVariables false

theorem own_kept {w w' : World} {base : Nat} {e : TypeId} {v : Value} {n : Nat} {xs : List Value} (ho : w.ownsRow base e 1 v n xs) (hb : Below w.heap.size w w') : w'.ownsRow base e 1 v n xs :=
  ho.kept (row := none) ⟨hb.os, hb.tape, hb.output, hb.size, fun k hk _ => hb.block k hk⟩ (by cases h : v.ownBlock with | none => exact .inl rfl | some g => exact .inr (by simp))
theorem Moved.ne {w w' : World} {v v' : Value} (h : Moved w w' v v') {B : Nat} (hB : B < w.heap.size) (hne : some B ≠ v.ownBlock) : some B ≠ v'.ownBlock := by
  rcases h.2 with e | ⟨g, e, hg⟩
  · rw [e]; exact hne
  · rw [e]; intro x; injection x with x; omega
/-- four bytes in dotted decimal -/
def dot4 (xs : List UInt8) : List UInt8 := dec (xs.getD 0 0).toNat ++ 46 :: (dec (xs.getD 1 0).toNat ++ 46 :: (dec (xs.getD 2 0).toNat ++ 46 :: dec (xs.getD 3 0).toNat))
theorem v4_val (x0 x1 x2 x3 : UInt8) : lo4 [x0, x1, x2, x3] / 256 ^ (3 - 0) % 256 = x0.toNat ∧ lo4 [x0, x1, x2, x3] / 256 ^ (3 - 1) % 256 = x1.toNat ∧ lo4 [x0, x1, x2, x3] / 256 ^ (3 - 2) % 256 = x2.toNat ∧ lo4 [x0, x1, x2, x3] / 256 ^ (3 - 3) % 256 = x3.toNat ∧ lo4 [x0, x1, x2, x3] < 18446744073709551616 := by
  have b0 := x0.toNat_lt
  have b1 := x1.toNat_lt
  have b2 := x2.toNat_lt
  have b3 := x3.toNat_lt
  simp only [lo4, be, List.foldl]
  refine ⟨?_, ?_, ?_, ?_, ?_⟩
  all_goals try simp only [Nat.reduceSub, Nat.reducePow]
  all_goals omega

set_option maxRecDepth 100000 in
set_option maxHeartbeats 4000000 in
theorem appTo4_any (A : Option Addr) (nn c base : Nat) (l xs : List UInt8) (z : Option Addr) (w : World) (hx : xs.length = 4) (hnn : l.length = nn) (ho : w.ownsRow base 5 1 (.slice A nn c) l.length (cb l)) (hbase : base ≤ w.heap.size) (hl : nn ≤ 50000) :
    Calls Tryd.prog 75 #[addrV 0 (lo4 xs) z, .slice A nn c] w fun e w' => AppTo base w (.slice A nn c) (l ++ dot4 xs) e w' := by
  match xs, hx with
  | [x0, x1, x2, x3], _ =>
    obtain ⟨y0, y1, y2, y3, hlo⟩ := v4_val x0 x1 x2 x3
    have V0 := Lib.hid y0
    have V1 := Lib.hid y1
    have V2 := Lib.hid y2
    have V3 := Lib.hid y3
    have HN := Lib.hid hnn
    have HD := Lib.hid (show dot4 [x0, x1, x2, x3] = dec x0.toNat ++ 46 :: (dec x1.toNat ++ 46 :: (dec x2.toNat ++ 46 :: dec x3.toNat)) from rfl)
    have e0 := dec_len x0.toNat
    have e1 := dec_len x1.toNat
    have e2 := dec_len x2.toNat
    have b0 : x0.toNat < 256 := x0.toNat_lt
    have b1 : x1.toNat < 256 := x1.toNat_lt
    have b2 : x2.toNat < 256 := x2.toNat_lt
    have b3 : x3.toNat < 256 := x3.toNat_lt
    clear y0 y1 y2 y3 hnn
    generalize lo4 [x0, x1, x2, x3] = L at hlo V0 V1 V2 V3 ⊢
    have hvx := fun (i : Nat) (hi : i < 4) (w : World) => v4_any 0 L z i w hi hlo
    unfold addrV at hvx ⊢
    have HV := Lib.hid hvx
    clear hvx
    have wB := (Below.refl w.heap.size w).alloc (Nat.le_refl _) (.cells #[.int .u64 0, .int .u64 (L : Int), .pointer z] 60)
    have cB0 : (w.alloc (.cells #[.int .u64 0, .int .u64 (L : Int), .pointer z] 60)).cell? ⟨w.heap.size, 0, none⟩ = some (.int .u64 0) := cell_of_row _ _ 0 _ _ _ (heap_alloc_new w _)
    have cB1 : (w.alloc (.cells #[.int .u64 0, .int .u64 (L : Int), .pointer z] 60)).cell? ⟨w.heap.size, 1, none⟩ = some (.int .u64 (L : Int)) := cell_of_row _ _ 1 _ _ _ (heap_alloc_new w _)
    have cB2 : (w.alloc (.cells #[.int .u64 0, .int .u64 (L : Int), .pointer z] 60)).cell? ⟨w.heap.size, 2, none⟩ = some (.pointer z) := cell_of_row _ _ 2 _ _ _ (heap_alloc_new w _)
    have neB : some w.heap.size ≠ (Value.slice A nn c).ownBlock := own_ne ho (Nat.le_refl _)
    have M0 : Moved (w.alloc (.cells #[.int .u64 0, .int .u64 (L : Int), .pointer z] 60)) (w.alloc (.cells #[.int .u64 0, .int .u64 (L : Int), .pointer z] 60)) (.slice A nn c) (.slice A nn c) := Moved.refl _ _
    have MB : Moved w (w.alloc (.cells #[.int .u64 0, .int .u64 (L : Int), .pointer z] 60)) (.slice A nn c) (.slice A nn c) := Moved.of_below _ wB
    have ho0 := ho.alloc (.cells #[.int .u64 0, .int .u64 (L : Int), .pointer z] 60)
    clear ho wB
    go_enter Tryd.func75, Tryd.ntmps75
    go_wp2_with fail
    refine (HV.out 0 (by decide) _).mono ?_
    rintro e w1 ⟨rfl, hb1⟩
    rw [V0.out]
    have M1 := M0.trans (Moved.of_below _ hb1)
    have ho1 := own_kept ho0 hb1
    have sz1 := M1.1.size
    have c10 := M1.cell cB0 neB
    have c11 := M1.cell cB1 neB
    have c12 := M1.cell cB2 neB
    go_wp2_with fail
    refine (appDec_any A nn c x0.toNat base l _ b0 HN.out (by exact ho1) (by simp at sz1; omega) (by omega)).mono ?_
    rintro e w2 ⟨A2, n2, d2, rfl, hn2, ho2, hm2⟩
    have M2 := M1.trans hm2
    have sz2 := M2.1.size
    have c20 := M2.cell cB0 neB
    have c21 := M2.cell cB1 neB
    have c22 := M2.cell cB2 neB
    have le2 : n2 ≤ nn + 3 := by rw [← hn2, List.length_append, HN.out]; have := dec_len x0.toNat; omega
    generalize hl2 : l ++ dec x0.toNat = l2 at hn2 ho2
    have HN2 := Lib.hid hn2
    have HL2 := Lib.hid hl2
    clear hn2 hl2
    go_wp2_with (at_builtin; refine wpList_app8 rfl (.tmp 9) (.tmp 10) 22 rfl base 5 Tryd.underlying22 info8 A2 n2 d2 l2 [46] HN2.out rfl _ _ ho2 1 1 (n2 + 1) rfl rfl rfl rfl ?g1 ?g2 ?_)
    case g1 => omega
    case g2 => simp at sz2; omega
    intro A3 d3 w3 ho3 hm3
    have M3 := M2.trans hm3
    have sz3 := M3.1.size
    have c30 := M3.cell cB0 neB
    have c31 := M3.cell cB1 neB
    have c32 := M3.cell cB2 neB
    have el3 : l2.length + 1 = (l2 ++ [46]).length := by simp
    rw [el3] at ho3
    clear el3
    have HN3 := Lib.hid (show (l2 ++ [46]).length = n2 + 1 by rw [List.length_append, HN2.out]; rfl)
    generalize hl3 : l2 ++ [46] = l3 at HN3 ho3
    have HL3 := Lib.hid hl3
    clear hl3
    go_wp2_with fail
    refine (HV.out 1 (by decide) _).mono ?_
    rintro e w4 ⟨rfl, hb4⟩
    rw [V1.out]
    have M4 := M3.trans (Moved.of_below _ hb4)
    have ho4 := own_kept ho3 hb4
    have sz4 := M4.1.size
    have c40 := M4.cell cB0 neB
    have c41 := M4.cell cB1 neB
    have c42 := M4.cell cB2 neB
    go_wp2_with fail
    refine (appDec_any A3 (n2 + 1) d3 x1.toNat base l3 _ b1 HN3.out (by exact ho4) (by simp at sz4; omega) (by omega)).mono ?_
    rintro e w5 ⟨A5, n5, d5, rfl, hn5, ho5, hm5⟩
    have M5 := M4.trans hm5
    have sz5 := M5.1.size
    have c50 := M5.cell cB0 neB
    have c51 := M5.cell cB1 neB
    have c52 := M5.cell cB2 neB
    have le5 : n5 ≤ (n2 + 1) + 3 := by rw [← hn5, List.length_append, HN3.out]; have := dec_len x1.toNat; omega
    generalize hl5 : l3 ++ dec x1.toNat = l5 at hn5 ho5
    have HN5 := Lib.hid hn5
    have HL5 := Lib.hid hl5
    clear hn5 hl5
    go_wp2_with (at_builtin; refine wpList_app8 rfl (.tmp 16) (.tmp 17) 22 rfl base 5 Tryd.underlying22 info8 A5 n5 d5 l5 [46] HN5.out rfl _ _ ho5 1 1 (n5 + 1) rfl rfl rfl rfl ?g1 ?g2 ?_)
    case g1 => omega
    case g2 => simp at sz5; omega
    intro A6 d6 w6 ho6 hm6
    have M6 := M5.trans hm6
    have sz6 := M6.1.size
    have c60 := M6.cell cB0 neB
    have c61 := M6.cell cB1 neB
    have c62 := M6.cell cB2 neB
    have el6 : l5.length + 1 = (l5 ++ [46]).length := by simp
    rw [el6] at ho6
    clear el6
    have HN6 := Lib.hid (show (l5 ++ [46]).length = n5 + 1 by rw [List.length_append, HN5.out]; rfl)
    generalize hl6 : l5 ++ [46] = l6 at HN6 ho6
    have HL6 := Lib.hid hl6
    clear hl6
    go_wp2_with fail
    refine (HV.out 2 (by decide) _).mono ?_
    rintro e w7 ⟨rfl, hb7⟩
    rw [V2.out]
    have M7 := M6.trans (Moved.of_below _ hb7)
    have ho7 := own_kept ho6 hb7
    have sz7 := M7.1.size
    have c70 := M7.cell cB0 neB
    have c71 := M7.cell cB1 neB
    have c72 := M7.cell cB2 neB
    go_wp2_with fail
    refine (appDec_any A6 (n5 + 1) d6 x2.toNat base l6 _ b2 HN6.out (by exact ho7) (by simp at sz7; omega) (by omega)).mono ?_
    rintro e w8 ⟨A8, n8, d8, rfl, hn8, ho8, hm8⟩
    have M8 := M7.trans hm8
    have sz8 := M8.1.size
    have c80 := M8.cell cB0 neB
    have c81 := M8.cell cB1 neB
    have c82 := M8.cell cB2 neB
    have le8 : n8 ≤ (n5 + 1) + 3 := by rw [← hn8, List.length_append, HN6.out]; have := dec_len x2.toNat; omega
    generalize hl8 : l6 ++ dec x2.toNat = l8 at hn8 ho8
    have HN8 := Lib.hid hn8
    have HL8 := Lib.hid hl8
    clear hn8 hl8
    go_wp2_with (at_builtin; refine wpList_app8 rfl (.tmp 23) (.tmp 24) 22 rfl base 5 Tryd.underlying22 info8 A8 n8 d8 l8 [46] HN8.out rfl _ _ ho8 1 1 (n8 + 1) rfl rfl rfl rfl ?g1 ?g2 ?_)
    case g1 => omega
    case g2 => simp at sz8; omega
    intro A9 d9 w9 ho9 hm9
    have M9 := M8.trans hm9
    have sz9 := M9.1.size
    have c90 := M9.cell cB0 neB
    have c91 := M9.cell cB1 neB
    have c92 := M9.cell cB2 neB
    have el9 : l8.length + 1 = (l8 ++ [46]).length := by simp
    rw [el9] at ho9
    clear el9
    have HN9 := Lib.hid (show (l8 ++ [46]).length = n8 + 1 by rw [List.length_append, HN8.out]; rfl)
    generalize hl9 : l8 ++ [46] = l9 at HN9 ho9
    have HL9 := Lib.hid hl9
    clear hl9
    go_wp2_with fail
    refine (HV.out 3 (by decide) _).mono ?_
    rintro e w10 ⟨rfl, hb10⟩
    rw [V3.out]
    have M10 := M9.trans (Moved.of_below _ hb10)
    have ho10 := own_kept ho9 hb10
    have sz10 := M10.1.size
    have c100 := M10.cell cB0 neB
    have c101 := M10.cell cB1 neB
    have c102 := M10.cell cB2 neB
    go_wp2_with fail
    refine (appDec_any A9 (n8 + 1) d9 x3.toNat base l9 _ b3 HN9.out (by exact ho10) (by simp at sz10; omega) (by omega)).mono ?_
    rintro e w11 ⟨A11, n11, d11, rfl, hn11, ho11, hm11⟩
    have M11 := M10.trans hm11
    have sz11 := M11.1.size
    have c110 := M11.cell cB0 neB
    have c111 := M11.cell cB1 neB
    have c112 := M11.cell cB2 neB
    have le11 : n11 ≤ (n8 + 1) + 3 := by rw [← hn11, List.length_append, HN9.out]; have := dec_len x3.toNat; omega
    generalize hl11 : l9 ++ dec x3.toNat = l11 at hn11 ho11
    have HN11 := Lib.hid hn11
    have HL11 := Lib.hid hl11
    clear hn11 hl11
    go_wp2
    go_ret
    have ef : l ++ dot4 [x0, x1, x2, x3] = l11 := by rw [HD.out, ← HL11.out, ← HL9.out, ← HL8.out, ← HL6.out, ← HL5.out, ← HL3.out, ← HL2.out]; simp
    rw [ef]
    exact ⟨A11, n11, d11, rfl, HN11.out, ho11, MB.trans M11⟩
end Go.Proofs.YtjepkkfpgmgnjaaDoor
