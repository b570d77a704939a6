/-
  Contracts of net.networkNumberAndMask, (*net.IPNet).String and impl.NetString, for a number and a mask of one length, 4 or 16 bytes, the number not IPv4-mapped. No condition.
-/
import Derived.Test.YtjepkkfpgmgnjaaDoorIPString
import Derived.Test.YtjepkkfpgmgnjaaDoorHexM
import Derived.Test.YtjepkkfpgmgnjaaDoorSize
import Derived.Test.YtjepkkfpgmgnjaaDoorFmtInt
namespace Go.Proofs.YtjepkkfpgmgnjaaDoor
open Go.RowKit
set_option linter.unusedVariables false

set_option maxHeartbeats 400000 in
theorem nnm_4 (B : Nat) (A M : Option Addr) (c d : Nat) (xs ms : List UInt8) (w : World) (h0 : w.cell? ⟨B, 0, none⟩ = some (.slice A 4 c)) (h1 : w.cell? ⟨B, 1, none⟩ = some (.slice M 4 d)) (hx : xs.length = 4) (hc : 4 ≤ c) (ha : Rd w A xs) :
    Calls Tryd.prog 49 #[.pointer (some ⟨B, 0, none⟩)] w fun e w' => ∃ A' c', e = .returned (.tuple #[.slice A' 4 c', .slice M 4 d]) ∧ 4 ≤ c' ∧ Rd w A' xs ∧ w = w' := by
  have HX := Lib.hid hx
  have HT := Lib.hid (to4_four hx)
  clear hx
  have heq := fun (w : World) (a : Option Addr) (n c : Nat) => Lib.run_eql_slice_nil (P := Tryd.prog) w 46 5 a n c 0 0 Tryd.underlying46
  go_enter Tryd.func49, Tryd.ntmps49
  go_wp2_with fail
  refine (netTo4_any _ _ _ xs _ HX.out hc (by exact ha)).mono ?_
  rintro e w1 ⟨A1, n1, c1, rfl, hn1, hc1, hr1, hi1, rfl⟩
  rw [HT.out] at hn1 hr1 hi1
  obtain rfl : n1 = 4 := by rw [← hn1]; exact HX.out
  obtain ⟨a1, rfl⟩ : ∃ a, A1 = some a := by cases A1 with | none => simp at hi1 | some a => exact ⟨a, rfl⟩
  clear hn1 hi1
  go_wp2
  go_ret2
  exact ⟨_, _, rfl, hc1, hr1, rfl⟩

set_option maxHeartbeats 400000 in
theorem nnm_16 (B : Nat) (A M : Option Addr) (c d : Nat) (xs ms : List UInt8) (w : World) (h0 : w.cell? ⟨B, 0, none⟩ = some (.slice A 16 c)) (h1 : w.cell? ⟨B, 1, none⟩ = some (.slice M 16 d)) (hx : xs.length = 16) (hm : xs.take 12 ≠ mp) (hc : 16 ≤ c) (ha : Rd w A xs) :
    Calls Tryd.prog 49 #[.pointer (some ⟨B, 0, none⟩)] w fun e w' => ∃ A' c', e = .returned (.tuple #[.slice A' 16 c', .slice M 16 d]) ∧ 16 ≤ c' ∧ Rd w A' xs ∧ w = w' := by
  have HX := Lib.hid hx
  have HT := Lib.hid (to4_six hx hm)
  clear hx hm
  have heq := fun (w : World) (a : Option Addr) (n c : Nat) => Lib.run_eql_slice_nil (P := Tryd.prog) w 46 5 a n c 0 0 Tryd.underlying46
  go_enter Tryd.func49, Tryd.ntmps49
  go_wp2_with fail
  refine (netTo4_any _ _ _ xs _ HX.out hc (by exact ha)).mono ?_
  rintro e w1 ⟨A1, n1, c1, rfl, hn1, hc1, hr1, hi1, rfl⟩
  rw [HT.out] at hn1 hr1 hi1
  obtain rfl : n1 = 0 := hn1.symm
  obtain rfl : A1 = none := by cases A1 with | none => rfl | some a => simp at hi1
  clear hn1 hi1
  go_wp2
  go_ret2
  exact ⟨_, _, rfl, hc, ha, rfl⟩


/-- what stands behind the slash -/
def NetTail (ms t : List UInt8) : Prop := (∃ k, k ≤ 8 * ms.length ∧ ms = cidr ms.length k ∧ t = dec k) ∨ ((∀ m, ms ≠ cidr ms.length m) ∧ t = hex ms)
theorem NetTail.one {ms t u : List UInt8} (h : NetTail ms t) (k : NetTail ms u) : t = u := by
  rcases h with ⟨a, ha, ea, rfl⟩ | ⟨na, rfl⟩
  · rcases k with ⟨b, hb, eb, rfl⟩ | ⟨nb, rfl⟩
    · rw [cidr_inj ha hb (ea.symm.trans eb)]
    · exact absurd ea (nb a)
  · rcases k with ⟨b, hb, eb, rfl⟩ | ⟨nb, rfl⟩
    · exact absurd eb (na b)
    · rfl
theorem NetTail.len {ms t : List UInt8} (h : NetTail ms t) (hm : ms.length ≤ 16) : t.length ≤ 40 := by
  rcases h with ⟨a, ha, ea, rfl⟩ | ⟨na, rfl⟩
  · have := dec_len a; omega
  · rw [hex_length]; omega
theorem long_len (g : Nat → Nat) : (long g).length ≤ 100 := by
  unfold long
  split
  · have := jn_len g 0 8; omega
  · rename_i h
    rcases bst_form g 8 (Nat.le_refl _) with ⟨h1, _⟩ | ⟨h1, h2, _⟩
    · exact absurd h1 h
    · have k1 := jn_len g 0 (bst g 8).1
      have k2 := jn_len g (bst g 8).2 (8 - (bst g 8).2)
      simp only [List.length_append, List.length_cons]
      omega
theorem ipText_len (xs : List UInt8) : (ipText xs).length ≤ 100 := by
  unfold ipText
  split
  · rename_i f _
    unfold dot4
    have h0 := dec_len (f.getD 0 0).toNat
    have h1 := dec_len (f.getD 1 0).toNat
    have h2 := dec_len (f.getD 2 0).toNat
    have h3 := dec_len (f.getD 3 0).toNat
    simp only [List.length_append, List.length_cons]
    omega
  · exact long_len _

set_option maxHeartbeats 1000000 in
theorem netString_4 (B : Nat) (A M : Option Addr) (c d : Nat) (xs ms : List UInt8) (p4 p6 : Addr) (w : World) (hz : ZF w p4 p6) (hp : P10 w) (h0 : w.cell? ⟨B, 0, none⟩ = some (.slice A 4 c)) (h1 : w.cell? ⟨B, 1, none⟩ = some (.slice M 4 d)) (hx : xs.length = 4) (hms : ms.length = 4) (hc : 4 ≤ c) (ha : Rd w A xs) (hm : Rd w M ms) :
    Calls Tryd.prog 34 #[.pointer (some ⟨B, 0, none⟩)] w fun e w' => ∃ t, NetTail ms t ∧ e = .returned (.string ⟨(ipText xs ++ 47 :: t).toArray⟩) ∧ Below w.heap.size w w' := by
  have HX := Lib.hid hx
  have HM := Lib.hid hms
  clear hx hms
  have L1 := ipText_len xs
  have heq := fun (w : World) (a : Option Addr) (n c : Nat) => Lib.run_eql_slice_nil (P := Tryd.prog) w 46 5 a n c 0 0 Tryd.underlying46
  have heqm := fun (w : World) (a : Option Addr) (n c : Nat) => Lib.run_eql_slice_nil (P := Tryd.prog) w 47 5 a n c 0 0 Tryd.underlying47
  obtain ⟨bm, om, rfl, _, _⟩ := hm.at_ (k := 0) (by rw [HM.out]; decide)
  go_enter Tryd.func34, Tryd.ntmps34
  go_wp2_with fail
  refine (nnm_4 B A _ c d xs ms _ (by exact h0) (by exact h1) HX.out hc (by exact ha)).mono ?_
  rintro e w1 ⟨A', c', rfl, hc', hra, rfl⟩
  obtain ⟨ba, oa, rfl, _, _⟩ := hra.at_ (k := 0) (by rw [HX.out]; decide)
  go_wp2_with fail
  refine (sml_any _ _ _ ms _ HM.out (by exact hm) (by decide)).mono ?_
  rintro e w1 ⟨rfl, ⟨k, hk, hkx, rfl⟩ | ⟨hkx, rfl⟩⟩
  · have T := Lib.hid (show NetTail ms (dec k) from .inl ⟨k, hk, hkx, rfl⟩)
    have hk2 : k < 256 := by have := HM.out; omega
    have t1 : ((k : Int) == -1) = false := by simp
    have L2 := dec_len k
    clear hk hkx
    go_wp2_with fail
    refine (ipString_4 _ _ xs p4 p6 _ hz HX.out hc' (by exact hra)).mono ?_
    rintro e w1 ⟨rfl, hb1⟩
    generalize hX : ipText xs = X at L1 ⊢
    go_wp2_with fail
    refine (itoa_any k hk2 _ (hp.below hb1)).mono ?_
    rintro e w2 ⟨rfl, hb2⟩
    generalize dec k = D at L2 T ⊢
    go_wp2
    go_ret
    exact ⟨_, T.out, by rw [hX]; simp [ba_app], hb1.trans (hb2.mono hb1.size)⟩
  · have T := Lib.hid (show NetTail ms (hex ms) from .inr ⟨hkx, rfl⟩)
    have L2 : (hex ms).length ≤ 40 := T.out.len (by have := HM.out; omega)
    clear hkx
    go_wp2_with fail
    refine (ipString_4 _ _ xs p4 p6 _ hz HX.out hc' (by exact hra)).mono ?_
    rintro e w1 ⟨rfl, hb1⟩
    generalize hX : ipText xs = X at L1 ⊢
    go_wp2_with fail
    refine (maskString_any _ _ _ ms _ HM.out (by exact hm.below hb1) (by decide) (by decide)).mono ?_
    rintro e w2 ⟨rfl, hb2⟩
    generalize hex ms = D at L2 T ⊢
    go_wp2
    go_ret
    exact ⟨_, T.out, by rw [hX]; simp [ba_app], hb1.trans (hb2.mono hb1.size)⟩

set_option maxHeartbeats 1000000 in
theorem implNetString_4 (A M : Option Addr) (c d : Nat) (xs ms : List UInt8) (p4 p6 : Addr) (w : World) (hz : ZF w p4 p6) (hp : P10 w) (hx : xs.length = 4) (hms : ms.length = 4) (ha : Rd w A xs) (hm : Rd w M ms) :
    Calls Tryd.prog 18 #[.slice A 4 c, .slice M 4 d] w fun e w' => ∃ t, NetTail ms t ∧ e = .returned (.string ⟨(ipText xs ++ 47 :: t).toArray⟩) ∧ Below w.heap.size w w' := by
  have HX := Lib.hid hx
  have HM := Lib.hid hms
  clear hx hms
  go_enter Tryd.func18, Tryd.ntmps18
  go_wp2_with fail
  refine (plain_any _ _ _ xs _ HX.out (by exact ha) (by decide)).mono ?_
  rintro e w1 ⟨A1, n1, c1, rfl, hn1, hown1, hb1⟩
  obtain rfl : n1 = 4 := by rw [← hn1]; exact HX.out
  clear hn1
  go_wp2_with fail
  refine (plain_any _ _ _ ms _ HM.out (by exact hm.below hb1) (by decide)).mono ?_
  rintro e w2 ⟨A2, n2, c2, rfl, hn2, hown2, hb2⟩
  obtain rfl : n2 = 4 := by rw [← hn2]; exact HM.out
  clear hn2
  have hb12 := hb1.trans (hb2.mono hb1.size)
  go_wp2_with fail
  refine (netString_4 _ A1 A2 c1 c2 xs ms p4 p6 _ ((hz.below hb12).alloc _) ?hp ?h0 ?h1 HX.out HM.out (own_cap hown1) ?ra ?rm).mono ?_
  case hp => exact (hp.below hb12).below ((Below.refl _ _).alloc (Nat.le_refl _) _)
  case h0 => simp
  case h1 => simp
  case ra => exact ((Rd.of_own (xs := xs) hown1).below hb2).alloc _
  case rm => exact (Rd.of_own (xs := ms) hown2).alloc _
  rintro e w4 ⟨t, ht, rfl, hb4⟩
  go_wp2
  go_ret
  exact ⟨t, ht, rfl, hb12.trans ((((Below.refl _ _).alloc (Nat.le_refl _) _).trans (hb4.mono (by simp))).mono hb12.size)⟩

set_option maxHeartbeats 1000000 in
theorem netString_16 (B : Nat) (A M : Option Addr) (c d : Nat) (xs ms : List UInt8) (p4 p6 : Addr) (w : World) (hz : ZF w p4 p6) (hp : P10 w) (h0 : w.cell? ⟨B, 0, none⟩ = some (.slice A 16 c)) (h1 : w.cell? ⟨B, 1, none⟩ = some (.slice M 16 d)) (hx : xs.length = 16) (hms : ms.length = 16) (hmx : xs.take 12 ≠ mp) (hc : 16 ≤ c) (ha : Rd w A xs) (hm : Rd w M ms) :
    Calls Tryd.prog 34 #[.pointer (some ⟨B, 0, none⟩)] w fun e w' => ∃ t, NetTail ms t ∧ e = .returned (.string ⟨(ipText xs ++ 47 :: t).toArray⟩) ∧ Below w.heap.size w w' := by
  have HX := Lib.hid hx
  have HM := Lib.hid hms
  have HMX := Lib.hid hmx
  clear hmx
  clear hx hms
  have L1 := ipText_len xs
  have heq := fun (w : World) (a : Option Addr) (n c : Nat) => Lib.run_eql_slice_nil (P := Tryd.prog) w 46 5 a n c 0 0 Tryd.underlying46
  have heqm := fun (w : World) (a : Option Addr) (n c : Nat) => Lib.run_eql_slice_nil (P := Tryd.prog) w 47 5 a n c 0 0 Tryd.underlying47
  obtain ⟨bm, om, rfl, _, _⟩ := hm.at_ (k := 0) (by rw [HM.out]; decide)
  go_enter Tryd.func34, Tryd.ntmps34
  go_wp2_with fail
  refine (nnm_16 B A _ c d xs ms _ (by exact h0) (by exact h1) HX.out HMX.out hc (by exact ha)).mono ?_
  rintro e w1 ⟨A', c', rfl, hc', hra, rfl⟩
  obtain ⟨ba, oa, rfl, _, _⟩ := hra.at_ (k := 0) (by rw [HX.out]; decide)
  go_wp2_with fail
  refine (sml_any _ _ _ ms _ HM.out (by exact hm) (by decide)).mono ?_
  rintro e w1 ⟨rfl, ⟨k, hk, hkx, rfl⟩ | ⟨hkx, rfl⟩⟩
  · have T := Lib.hid (show NetTail ms (dec k) from .inl ⟨k, hk, hkx, rfl⟩)
    have hk2 : k < 256 := by have := HM.out; omega
    have t1 : ((k : Int) == -1) = false := by simp
    have L2 := dec_len k
    clear hk hkx
    go_wp2_with fail
    refine (ipString_16 _ _ xs p4 p6 _ hz HX.out hc' (by exact hra)).mono ?_
    rintro e w1 ⟨rfl, hb1⟩
    generalize hX : ipText xs = X at L1 ⊢
    go_wp2_with fail
    refine (itoa_any k hk2 _ (hp.below hb1)).mono ?_
    rintro e w2 ⟨rfl, hb2⟩
    generalize dec k = D at L2 T ⊢
    go_wp2
    go_ret
    exact ⟨_, T.out, by rw [hX]; simp [ba_app], hb1.trans (hb2.mono hb1.size)⟩
  · have T := Lib.hid (show NetTail ms (hex ms) from .inr ⟨hkx, rfl⟩)
    have L2 : (hex ms).length ≤ 40 := T.out.len (by have := HM.out; omega)
    clear hkx
    go_wp2_with fail
    refine (ipString_16 _ _ xs p4 p6 _ hz HX.out hc' (by exact hra)).mono ?_
    rintro e w1 ⟨rfl, hb1⟩
    generalize hX : ipText xs = X at L1 ⊢
    go_wp2_with fail
    refine (maskString_any _ _ _ ms _ HM.out (by exact hm.below hb1) (by decide) (by decide)).mono ?_
    rintro e w2 ⟨rfl, hb2⟩
    generalize hex ms = D at L2 T ⊢
    go_wp2
    go_ret
    exact ⟨_, T.out, by rw [hX]; simp [ba_app], hb1.trans (hb2.mono hb1.size)⟩

set_option maxHeartbeats 1000000 in
theorem implNetString_16 (A M : Option Addr) (c d : Nat) (xs ms : List UInt8) (p4 p6 : Addr) (w : World) (hz : ZF w p4 p6) (hp : P10 w) (hx : xs.length = 16) (hms : ms.length = 16) (hmx : xs.take 12 ≠ mp) (ha : Rd w A xs) (hm : Rd w M ms) :
    Calls Tryd.prog 18 #[.slice A 16 c, .slice M 16 d] w fun e w' => ∃ t, NetTail ms t ∧ e = .returned (.string ⟨(ipText xs ++ 47 :: t).toArray⟩) ∧ Below w.heap.size w w' := by
  have HX := Lib.hid hx
  have HM := Lib.hid hms
  have HMX := Lib.hid hmx
  clear hmx
  clear hx hms
  go_enter Tryd.func18, Tryd.ntmps18
  go_wp2_with fail
  refine (plain_any _ _ _ xs _ HX.out (by exact ha) (by decide)).mono ?_
  rintro e w1 ⟨A1, n1, c1, rfl, hn1, hown1, hb1⟩
  obtain rfl : n1 = 16 := by rw [← hn1]; exact HX.out
  clear hn1
  go_wp2_with fail
  refine (plain_any _ _ _ ms _ HM.out (by exact hm.below hb1) (by decide)).mono ?_
  rintro e w2 ⟨A2, n2, c2, rfl, hn2, hown2, hb2⟩
  obtain rfl : n2 = 16 := by rw [← hn2]; exact HM.out
  clear hn2
  have hb12 := hb1.trans (hb2.mono hb1.size)
  go_wp2_with fail
  refine (netString_16 _ A1 A2 c1 c2 xs ms p4 p6 _ ((hz.below hb12).alloc _) ?hp ?h0 ?h1 HX.out HM.out HMX.out (own_cap hown1) ?ra ?rm).mono ?_
  case hp => exact (hp.below hb12).below ((Below.refl _ _).alloc (Nat.le_refl _) _)
  case h0 => simp
  case h1 => simp
  case ra => exact ((Rd.of_own (xs := xs) hown1).below hb2).alloc _
  case rm => exact (Rd.of_own (xs := ms) hown2).alloc _
  rintro e w4 ⟨t, ht, rfl, hb4⟩
  go_wp2
  go_ret
  exact ⟨t, ht, rfl, hb12.trans ((((Below.refl _ _).alloc (Nat.le_refl _) _).trans (hb4.mono (by simp))).mono hb12.size)⟩
end Go.Proofs.YtjepkkfpgmgnjaaDoor
