/-
  Contracts of spec.begins and spec.KindsOf: the kinds of an address by its first bits are those that package net tests. Condition: 4 or 16 bytes.
-/
import Derived.Test.YtebnhhifodmkkaaBit
import Derived.Test.YtebnhhifodmkkaaKinds
import Derived.Test.YtebnhhifodmkkaaSpecTo4
namespace Go.Proofs.Ytebnhhifodmkkaa
open Go.RowKit
set_option linter.unusedVariables false

def beginsB (xs : List UInt8) (k : Nat) (ys : List UInt8) : Bool := (List.range k).all fun i => bitOf xs i == bitOf ys i
theorem beginsB_false {xs ys : List UInt8} {k i : Nat} (hi : i < k) (h : bitOf xs i ≠ bitOf ys i) : beginsB xs k ys = false := by
  rw [beginsB, List.all_eq_false]
  exact ⟨i, List.mem_range.mpr hi, by simpa using h⟩
theorem beginsB_true {xs ys : List UInt8} {k : Nat} (h : ∀ i, i < k → bitOf xs i = bitOf ys i) : beginsB xs k ys = true := by
  rw [beginsB, List.all_eq_true]
  intro i hi
  simpa using h i (List.mem_range.mp hi)

set_option maxHeartbeats 400000 in
theorem begins_any (A B : Option Addr) (n c m d : Nat) (xs ys : List UInt8) (k : Nat) (K : Int) (hK : K = (k : Int)) (w : World) (hn : xs.length = n) (hm : ys.length = m) (ha : Rd w A xs) (hb : Rd w B ys) (hk : k ≤ 8 * n) (hk2 : k ≤ 8 * m) (hs : n ≤ 16) (hs2 : m ≤ 16) (r : Bool) (hr : beginsB xs k ys = r) :
    Calls Try.prog 35 #[.slice A n c, .int .i64 K, .slice B m d] w fun e w' => e = .returned (.bool r) ∧ w = w' := by
  subst hK
  have HN := Lib.hid hn
  have HM := Lib.hid hm
  have HR := Lib.hid hr
  clear hn hm hr
  go_enter Try.func35, Try.ntmps35
  go_wp2
  go_loopw [9] (fun i wr => ∃ j : Nat, j ≤ k ∧ i = .int .i64 j ∧ wr = w ∧ Hid (∀ i, i < j → bitOf xs i = bitOf ys i)) (fun i _ => k - (intOf i).toNat)
  case atStart => exact ⟨0, Nat.zero_le _, rfl, rfl, fun i h => absurd h (by omega)⟩
  case round =>
    obtain ⟨j, hj, rfl, rfl, HS⟩ := hrel
    by_cases hlt : j < k
    · by_cases he : bitOf xs j = bitOf ys j
      · obtain ⟨b1, h1⟩ : ∃ r, bitOf xs j = r := ⟨_, rfl⟩
        have h2 : bitOf ys j = b1 := by rw [← he, h1]
        have H1 := Lib.hid h1
        have H2 := Lib.hid h2
        clear h1 h2 he
        go_wp2_with fail
        refine (bit_any _ _ _ xs j _ HN.out (by exact ha) (by omega) (by omega) b1 H1.out).mono ?_
        rintro e w1 ⟨rfl, rfl⟩
        go_wp2_with fail
        refine (bit_any _ _ _ ys j _ HM.out (by exact hb) (by omega) (by omega) b1 H2.out).mono ?_
        rintro e w1 ⟨rfl, rfl⟩
        cases b1
        all_goals
          go_wp2
          go_roundw
          case rel =>
            refine ⟨j + 1, by omega, by go_num, by trivial, fun i hi => ?_⟩
            rcases Nat.lt_or_ge i j with h | h
            · exact HS.out i h
            · obtain rfl : i = j := by omega
              rw [H1.out, H2.out]
          case measure => simp [intOf]; omega
      · have HF := Lib.hid (beginsB_false hlt he)
        obtain ⟨b1, h1⟩ : ∃ r, bitOf xs j = r := ⟨_, rfl⟩
        have h2 : bitOf ys j = !b1 := by
          rw [← h1]
          cases h3 : bitOf xs j <;> cases h4 : bitOf ys j <;> simp_all
        have H1 := Lib.hid h1
        have H2 := Lib.hid h2
        clear h1 h2 he
        go_wp2_with fail
        refine (bit_any _ _ _ xs j _ HN.out (by exact ha) (by omega) (by omega) b1 H1.out).mono ?_
        rintro e w1 ⟨rfl, rfl⟩
        go_wp2_with fail
        refine (bit_any _ _ _ ys j _ HM.out (by exact hb) (by omega) (by omega) (!b1) H2.out).mono ?_
        rintro e w1 ⟨rfl, rfl⟩
        cases b1
        all_goals
          go_wp2
          go_ret
          exact ⟨ret_bool (HF.out.symm.trans HR.out), rfl⟩
    · go_wp2
      go_ret
      exact ⟨ret_bool ((beginsB_true fun i hi => HS.out i (by omega)).symm.trans HR.out), rfl⟩

/-- the first k bits of a byte -/
def top (k : Nat) (y c : UInt8) : Bool := (List.range k).all fun i => y.toNat.testBit (7 - i) == c.toNat.testBit (7 - i)
theorem u8_forall {p : UInt8 → Bool} (h : ∀ n : Fin 256, p (UInt8.ofNat n.val) = true) (x : UInt8) : p x = true := by
  have := h ⟨x.toNat, x.toNat_lt⟩
  simpa using this
theorem begins_8 (k : Nat) (y0 : UInt8) (r : List UInt8) (c : List UInt8) (c0 : UInt8) (hk : k ≤ 8) : beginsB (y0 :: r) k (c0 :: c) = top k y0 c0 := by
  unfold beginsB top
  rw [Bool.eq_iff_iff]
  simp only [List.all_eq_true, List.mem_range]
  refine forall_congr' fun i => forall_congr' fun hi => ?_
  have h1 : i / 8 = 0 := by omega
  have h2 : i % 8 = i := by omega
  simp [bitOf, h1, h2]
theorem begins_16 (j : Nat) (y0 y1 : UInt8) (r : List UInt8) (c0 c1 : UInt8) (hj : j ≤ 8) : beginsB (y0 :: y1 :: r) (8 + j) [c0, c1] = (top 8 y0 c0 && top j y1 c1) := by
  unfold beginsB top
  rw [Bool.eq_iff_iff]
  simp only [List.all_eq_true, List.mem_range, Bool.and_eq_true]
  constructor
  · intro h
    refine ⟨fun i hi => ?_, fun i hi => ?_⟩
    · have := h i (by omega)
      have h1 : i / 8 = 0 := by omega
      have h2 : i % 8 = i := by omega
      simpa [bitOf, h1, h2] using this
    · have := h (8 + i) (by omega)
      have h1 : (8 + i) / 8 = 1 := by omega
      have h2 : (8 + i) % 8 = i := by omega
      simpa [bitOf, h1, h2] using this
  · rintro ⟨ha, hb⟩ i hi
    rcases Nat.lt_or_ge i 8 with h | h
    · have h1 : i / 8 = 0 := by omega
      have h2 : i % 8 = i := by omega
      simpa [bitOf, h1, h2] using ha i h
    · obtain ⟨j', rfl⟩ : ∃ j', i = 8 + j' := ⟨i - 8, by omega⟩
      have h1 : (8 + j') / 8 = 1 := by omega
      have h2 : (8 + j') % 8 = j' := by omega
      simpa [bitOf, h1, h2] using hb j' (by omega)
theorem t_10 (y : UInt8) : top 8 y 10 = (y == 10) := by simpa using u8_forall (p := fun y => top 8 y 10 == (y == 10)) (by decide +kernel) y
theorem t_172 (y : UInt8) : top 8 y 172 = (y == 172) := by simpa using u8_forall (p := fun y => top 8 y 172 == (y == 172)) (by decide +kernel) y
theorem t_192 (y : UInt8) : top 8 y 192 = (y == 192) := by simpa using u8_forall (p := fun y => top 8 y 192 == (y == 192)) (by decide +kernel) y
theorem t_169 (y : UInt8) : top 8 y 169 = (y == 169) := by simpa using u8_forall (p := fun y => top 8 y 169 == (y == 169)) (by decide +kernel) y
theorem t_168 (y : UInt8) : top 8 y 168 = (y == 168) := by simpa using u8_forall (p := fun y => top 8 y 168 == (y == 168)) (by decide +kernel) y
theorem t_254 (y : UInt8) : top 8 y 254 = (y == 254) := by simpa using u8_forall (p := fun y => top 8 y 254 == (y == 254)) (by decide +kernel) y
theorem t_255 (y : UInt8) : top 8 y 255 = (y == 255) := by simpa using u8_forall (p := fun y => top 8 y 255 == (y == 255)) (by decide +kernel) y
theorem t_16 (y : UInt8) : top 4 y 16 = (y &&& 240 == 16) := by simpa using u8_forall (p := fun y => top 4 y 16 == (y &&& 240 == 16)) (by decide +kernel) y
theorem t_224 (y : UInt8) : top 4 y 224 = (y &&& 240 == 224) := by simpa using u8_forall (p := fun y => top 4 y 224 == (y &&& 240 == 224)) (by decide +kernel) y
theorem t_252 (y : UInt8) : top 7 y 252 = (y &&& 254 == 252) := by simpa using u8_forall (p := fun y => top 7 y 252 == (y &&& 254 == 252)) (by decide +kernel) y
theorem t_128 (y : UInt8) : top 2 y 128 = (y &&& 192 == 128) := by simpa using u8_forall (p := fun y => top 2 y 128 == (y &&& 192 == 128)) (by decide +kernel) y

theorem b_pr4 (y0 y1 : UInt8) (r : List UInt8) : (beginsB (y0 :: y1 :: r) 8 [10] || beginsB (y0 :: y1 :: r) 12 [172, 16] || beginsB (y0 :: y1 :: r) 16 [192, 168]) = pr4 y0 y1 := by
  rw [begins_8 8 y0 _ _ 10 (by omega), begins_16 4 y0 y1 r 172 16 (by omega), begins_16 8 y0 y1 r 192 168 (by omega), t_10, t_172, t_16, t_192, t_168]
  rfl
theorem b_mc4 (y0 y1 : UInt8) (r : List UInt8) : beginsB (y0 :: r) 4 [224] = mc4 y0 y1 := by rw [begins_8 4 y0 _ _ 224 (by omega), t_224]; rfl
theorem b_ll4 (y0 y1 : UInt8) (r : List UInt8) : beginsB (y0 :: y1 :: r) 16 [169, 254] = ll4 y0 y1 := by rw [begins_16 8 y0 y1 r 169 254 (by omega), t_169, t_254]; rfl
theorem b_pr6 (y0 y1 : UInt8) (r : List UInt8) : beginsB (y0 :: r) 7 [252] = pr6 y0 y1 := by rw [begins_8 7 y0 _ _ 252 (by omega), t_252]; rfl
theorem b_mc6 (y0 y1 : UInt8) (r : List UInt8) : beginsB (y0 :: r) 8 [255] = mc6 y0 y1 := by rw [begins_8 8 y0 _ _ 255 (by omega), t_255]; rfl
theorem b_ll6 (y0 y1 : UInt8) (r : List UInt8) : beginsB (y0 :: y1 :: r) 10 [254, 128] = ll6 y0 y1 := by rw [begins_16 2 y0 y1 r 254 128 (by omega), t_254, t_128]; rfl

/-- what spec.KindsOf gives: three bools in a struct -/
def KindsBack (w : World) (p m l : Bool) (e : Ending) (w' : World) : Prop := e = .returned (.agg #[.bool p, .bool m, .bool l]) ∧ Below w.heap.size w w'

set_option maxHeartbeats 1000000 in
theorem kindsOf_none (A : Option Addr) (c : Nat) (xs : List UInt8) (w : World) (hn : xs.length = 16) (hc : 16 ≤ c) (ha : Rd w A xs) (ht : to4 xs = none)
    (p m l : Bool) (hp : beginsB xs 7 [252] = p) (hm : beginsB xs 8 [255] = m) (hl : beginsB xs 10 [254, 128] = l) :
    Calls Try.prog 20 #[.slice A 16 c] w fun e w' => KindsBack w p m l e w' := by
  have HN := Lib.hid hn
  have HT := Lib.hid ht
  have HP := Lib.hid hp
  have HM := Lib.hid hm
  have HL := Lib.hid hl
  clear hn ht hp hm hl
  go_enter Try.func20, Try.ntmps20
  go_wp2_with fail
  refine (specTo4_any _ _ _ xs _ HN.out hc (by exact ha.alloc _)).mono ?_
  rintro e w1 ⟨A1, n1, c1, rfl, hn1, hown1, hb1⟩
  rw [HT.out] at hn1 hown1 ⊢
  clear hn1
  have hlt : w.heap.size < w1.heap.size := by have := hb1.size; simp at this; omega
  have k0 : w1.cell? ⟨w.heap.size, 0, none⟩ = some (.bool false) := (hb1.cell (p := ⟨w.heap.size, 0, none⟩) (by simp)).trans (by simp)
  have k1 : w1.cell? ⟨w.heap.size, 1, none⟩ = some (.bool false) := (hb1.cell (p := ⟨w.heap.size, 1, none⟩) (by simp)).trans (by simp)
  have k2 : w1.cell? ⟨w.heap.size, 2, none⟩ = some (.bool false) := (hb1.cell (p := ⟨w.heap.size, 2, none⟩) (by simp)).trans (by simp)
  have f0 : w1.frozen? ⟨w.heap.size, 0, none⟩ = false := (hb1.frozen (p := ⟨w.heap.size, 0, none⟩) (by simp)).trans (by simp)
  have f1 : w1.frozen? ⟨w.heap.size, 1, none⟩ = false := (hb1.frozen (p := ⟨w.heap.size, 1, none⟩) (by simp)).trans (by simp)
  have f2 : w1.frozen? ⟨w.heap.size, 2, none⟩ = false := (hb1.frozen (p := ⟨w.heap.size, 2, none⟩) (by simp)).trans (by simp)
  have hbw : Below w.heap.size w w1 := ((Below.refl _ _).alloc (Nat.le_refl _) _).trans (hb1.mono (by simp))
  have ha1 : Rd w1 A xs := (ha.alloc _).below hb1
  clear hb1 hown1
  go_wp2_with fail
  refine (begins_any _ _ 16 _ _ _ xs [252] 7 7 rfl _ HN.out rfl (by exact (ha1.alloc _)) (by exact Rd.newAt [252] (by simp) rfl) (by decide) (by decide) (by decide) (by decide) p HP.out).mono ?_
  rintro e w2 ⟨rfl, rfl⟩
  go_wp2_with fail
  refine (begins_any _ _ 16 _ _ _ xs [255] 8 8 rfl _ HN.out rfl (by exact ((ha1.alloc _).alloc _)) (by exact Rd.newAt [255] (by simp) rfl) (by decide) (by decide) (by decide) (by decide) m HM.out).mono ?_
  rintro e w2 ⟨rfl, rfl⟩
  go_wp2_with fail
  refine (calls_bel (begins_any _ _ 16 _ _ _ xs [254, 128] 10 10 rfl _ HN.out rfl (by exact (((ha1.alloc _).alloc _).alloc _)) (by exact Rd.newAt [254, 128] (by simp) rfl) (by decide) (by decide) (by decide) (by decide) l HL.out)).mono ?_
  rintro e w2 ⟨rfl, hb2⟩
  have hb3 : Below w1.heap.size w1 w2 := ((((Below.refl _ _).alloc (Nat.le_refl _) _).alloc (by simp) _).alloc (by simp; omega) _).trans (hb2.mono (by simp; omega))
  have g0 := (hb3.cell (p := ⟨w.heap.size, 0, none⟩) hlt).trans k0
  have g1 := (hb3.cell (p := ⟨w.heap.size, 1, none⟩) hlt).trans k1
  have g2 := (hb3.cell (p := ⟨w.heap.size, 2, none⟩) hlt).trans k2
  have j0 := (hb3.frozen (p := ⟨w.heap.size, 0, none⟩) hlt).trans f0
  have j1 := (hb3.frozen (p := ⟨w.heap.size, 1, none⟩) hlt).trans f1
  have j2 := (hb3.frozen (p := ⟨w.heap.size, 2, none⟩) hlt).trans f2
  have hb4 : Below w.heap.size w w2 := hbw.trans (hb3.mono hbw.size)
  clear hb2 hb3 k0 k1 k2 f0 f1 f2 ha1 hbw
  go_wp2
  exact bodyPost_ret (v := .agg #[.bool p, .bool m, .bool l]) (by simp [results, Try.results20, go_sem, g0, g1, g2]) rfl ⟨rfl, ((hb4.setCell (p := ⟨w.heap.size, 0, none⟩) (Nat.le_refl _) _).setCell (p := ⟨w.heap.size, 1, none⟩) (Nat.le_refl _) _).setCell (p := ⟨w.heap.size, 2, none⟩) (Nat.le_refl _) _⟩

set_option maxHeartbeats 1000000 in
theorem kindsOf_some1 (A : Option Addr) (n c : Nat) (xs ys : List UInt8) (w : World) (hn0 : xs.length = n) (hc : n ≤ c) (ha : Rd w A xs) (ht : to4 xs = some ys) (hn : ys.length = 4)
    (hp1 : beginsB ys 8 [10] = true) (m l : Bool) (hm : beginsB ys 4 [224] = m) (hl : beginsB ys 16 [169, 254] = l) :
    Calls Try.prog 20 #[.slice A n c] w fun e w' => KindsBack w true m l e w' := by
  have HN0 := Lib.hid hn0
  have HN := Lib.hid hn
  have HT := Lib.hid ht
  have HP1 := Lib.hid hp1
  have HM := Lib.hid hm
  have HL := Lib.hid hl
  clear hn0 hn ht hm hl hp1
  go_enter Try.func20, Try.ntmps20
  go_wp2_with fail
  refine (specTo4_any _ _ _ xs _ HN0.out hc (by exact ha.alloc _)).mono ?_
  rintro e w1 ⟨A1, n1, c1, rfl, hn1, hown1, hb1⟩
  rw [HT.out] at hn1 hown1 ⊢
  obtain rfl : n1 = 4 := by rw [← hn1]; exact HN.out
  clear hn1
  have hlt : w.heap.size < w1.heap.size := by have := hb1.size; simp at this; omega
  have k0 : w1.cell? ⟨w.heap.size, 0, none⟩ = some (.bool false) := (hb1.cell (p := ⟨w.heap.size, 0, none⟩) (by simp)).trans (by simp)
  have k1 : w1.cell? ⟨w.heap.size, 1, none⟩ = some (.bool false) := (hb1.cell (p := ⟨w.heap.size, 1, none⟩) (by simp)).trans (by simp)
  have k2 : w1.cell? ⟨w.heap.size, 2, none⟩ = some (.bool false) := (hb1.cell (p := ⟨w.heap.size, 2, none⟩) (by simp)).trans (by simp)
  have f0 : w1.frozen? ⟨w.heap.size, 0, none⟩ = false := (hb1.frozen (p := ⟨w.heap.size, 0, none⟩) (by simp)).trans (by simp)
  have f1 : w1.frozen? ⟨w.heap.size, 1, none⟩ = false := (hb1.frozen (p := ⟨w.heap.size, 1, none⟩) (by simp)).trans (by simp)
  have f2 : w1.frozen? ⟨w.heap.size, 2, none⟩ = false := (hb1.frozen (p := ⟨w.heap.size, 2, none⟩) (by simp)).trans (by simp)
  have hbw : Below w.heap.size w w1 := ((Below.refl _ _).alloc (Nat.le_refl _) _).trans (hb1.mono (by simp))
  have ha1 : Rd w1 A1 ys := Rd.of_own (xs := ys) hown1
  clear hb1 hown1
  go_wp2_with fail
  refine (begins_any _ _ 4 _ _ _ ys [10] 8 8 rfl _ HN.out rfl (by exact (ha1.alloc _)) (by exact Rd.newAt [10] (by simp) rfl) (by decide) (by decide) (by decide) (by decide) true HP1.out).mono ?_
  rintro e w2 ⟨rfl, rfl⟩
  go_wp2_with fail
  refine (begins_any _ _ 4 _ _ _ ys [224] 4 4 rfl _ HN.out rfl (by exact ((ha1.alloc _).alloc _)) (by exact Rd.newAt [224] (by simp) rfl) (by decide) (by decide) (by decide) (by decide) m HM.out).mono ?_
  rintro e w2 ⟨rfl, rfl⟩
  go_wp2_with fail
  refine (calls_bel (begins_any _ _ 4 _ _ _ ys [169, 254] 16 16 rfl _ HN.out rfl (by exact (((ha1.alloc _).alloc _).alloc _)) (by exact Rd.newAt [169, 254] (by simp) rfl) (by decide) (by decide) (by decide) (by decide) l HL.out)).mono ?_
  rintro e w2 ⟨rfl, hb2⟩
  have hb3 : Below w1.heap.size w1 w2 := ((((Below.refl _ _).alloc (Nat.le_refl _) _).alloc (by simp) _).alloc (by simp; omega) _).trans (hb2.mono (by simp; omega))
  have g0 := (hb3.cell (p := ⟨w.heap.size, 0, none⟩) hlt).trans k0
  have g1 := (hb3.cell (p := ⟨w.heap.size, 1, none⟩) hlt).trans k1
  have g2 := (hb3.cell (p := ⟨w.heap.size, 2, none⟩) hlt).trans k2
  have j0 := (hb3.frozen (p := ⟨w.heap.size, 0, none⟩) hlt).trans f0
  have j1 := (hb3.frozen (p := ⟨w.heap.size, 1, none⟩) hlt).trans f1
  have j2 := (hb3.frozen (p := ⟨w.heap.size, 2, none⟩) hlt).trans f2
  have hb4 : Below w.heap.size w w2 := hbw.trans (hb3.mono hbw.size)
  clear hb2 hb3 k0 k1 k2 f0 f1 f2 ha1 hbw
  go_wp2
  exact bodyPost_ret (v := .agg #[.bool true, .bool m, .bool l]) (by simp [results, Try.results20, go_sem, g0, g1, g2]) rfl ⟨rfl, ((hb4.setCell (p := ⟨w.heap.size, 0, none⟩) (Nat.le_refl _) _).setCell (p := ⟨w.heap.size, 1, none⟩) (Nat.le_refl _) _).setCell (p := ⟨w.heap.size, 2, none⟩) (Nat.le_refl _) _⟩

set_option maxHeartbeats 1000000 in
theorem kindsOf_some2 (A : Option Addr) (n c : Nat) (xs ys : List UInt8) (w : World) (hn0 : xs.length = n) (hc : n ≤ c) (ha : Rd w A xs) (ht : to4 xs = some ys) (hn : ys.length = 4)
    (hp1 : beginsB ys 8 [10] = false) (hp2 : beginsB ys 12 [172, 16] = true) (m l : Bool) (hm : beginsB ys 4 [224] = m) (hl : beginsB ys 16 [169, 254] = l) :
    Calls Try.prog 20 #[.slice A n c] w fun e w' => KindsBack w true m l e w' := by
  have HN0 := Lib.hid hn0
  have HN := Lib.hid hn
  have HT := Lib.hid ht
  have HP1 := Lib.hid hp1
  have HP2 := Lib.hid hp2
  have HM := Lib.hid hm
  have HL := Lib.hid hl
  clear hn0 hn ht hm hl hp1 hp2
  go_enter Try.func20, Try.ntmps20
  go_wp2_with fail
  refine (specTo4_any _ _ _ xs _ HN0.out hc (by exact ha.alloc _)).mono ?_
  rintro e w1 ⟨A1, n1, c1, rfl, hn1, hown1, hb1⟩
  rw [HT.out] at hn1 hown1 ⊢
  obtain rfl : n1 = 4 := by rw [← hn1]; exact HN.out
  clear hn1
  have hlt : w.heap.size < w1.heap.size := by have := hb1.size; simp at this; omega
  have k0 : w1.cell? ⟨w.heap.size, 0, none⟩ = some (.bool false) := (hb1.cell (p := ⟨w.heap.size, 0, none⟩) (by simp)).trans (by simp)
  have k1 : w1.cell? ⟨w.heap.size, 1, none⟩ = some (.bool false) := (hb1.cell (p := ⟨w.heap.size, 1, none⟩) (by simp)).trans (by simp)
  have k2 : w1.cell? ⟨w.heap.size, 2, none⟩ = some (.bool false) := (hb1.cell (p := ⟨w.heap.size, 2, none⟩) (by simp)).trans (by simp)
  have f0 : w1.frozen? ⟨w.heap.size, 0, none⟩ = false := (hb1.frozen (p := ⟨w.heap.size, 0, none⟩) (by simp)).trans (by simp)
  have f1 : w1.frozen? ⟨w.heap.size, 1, none⟩ = false := (hb1.frozen (p := ⟨w.heap.size, 1, none⟩) (by simp)).trans (by simp)
  have f2 : w1.frozen? ⟨w.heap.size, 2, none⟩ = false := (hb1.frozen (p := ⟨w.heap.size, 2, none⟩) (by simp)).trans (by simp)
  have hbw : Below w.heap.size w w1 := ((Below.refl _ _).alloc (Nat.le_refl _) _).trans (hb1.mono (by simp))
  have ha1 : Rd w1 A1 ys := Rd.of_own (xs := ys) hown1
  clear hb1 hown1
  go_wp2_with fail
  refine (begins_any _ _ 4 _ _ _ ys [10] 8 8 rfl _ HN.out rfl (by exact (ha1.alloc _)) (by exact Rd.newAt [10] (by simp) rfl) (by decide) (by decide) (by decide) (by decide) false HP1.out).mono ?_
  rintro e w2 ⟨rfl, rfl⟩
  go_wp2_with fail
  refine (begins_any _ _ 4 _ _ _ ys [172, 16] 12 12 rfl _ HN.out rfl (by exact ((ha1.alloc _).alloc _)) (by exact Rd.newAt [172, 16] (by simp) rfl) (by decide) (by decide) (by decide) (by decide) true HP2.out).mono ?_
  rintro e w2 ⟨rfl, rfl⟩
  go_wp2_with fail
  refine (begins_any _ _ 4 _ _ _ ys [224] 4 4 rfl _ HN.out rfl (by exact (((ha1.alloc _).alloc _).alloc _)) (by exact Rd.newAt [224] (by simp) rfl) (by decide) (by decide) (by decide) (by decide) m HM.out).mono ?_
  rintro e w2 ⟨rfl, rfl⟩
  go_wp2_with fail
  refine (calls_bel (begins_any _ _ 4 _ _ _ ys [169, 254] 16 16 rfl _ HN.out rfl (by exact ((((ha1.alloc _).alloc _).alloc _).alloc _)) (by exact Rd.newAt [169, 254] (by simp) rfl) (by decide) (by decide) (by decide) (by decide) l HL.out)).mono ?_
  rintro e w2 ⟨rfl, hb2⟩
  have hb3 : Below w1.heap.size w1 w2 := (((((Below.refl _ _).alloc (Nat.le_refl _) _).alloc (by simp) _).alloc (by simp; omega) _).alloc (by simp; omega) _).trans (hb2.mono (by simp; omega))
  have g0 := (hb3.cell (p := ⟨w.heap.size, 0, none⟩) hlt).trans k0
  have g1 := (hb3.cell (p := ⟨w.heap.size, 1, none⟩) hlt).trans k1
  have g2 := (hb3.cell (p := ⟨w.heap.size, 2, none⟩) hlt).trans k2
  have j0 := (hb3.frozen (p := ⟨w.heap.size, 0, none⟩) hlt).trans f0
  have j1 := (hb3.frozen (p := ⟨w.heap.size, 1, none⟩) hlt).trans f1
  have j2 := (hb3.frozen (p := ⟨w.heap.size, 2, none⟩) hlt).trans f2
  have hb4 : Below w.heap.size w w2 := hbw.trans (hb3.mono hbw.size)
  clear hb2 hb3 k0 k1 k2 f0 f1 f2 ha1 hbw
  go_wp2
  exact bodyPost_ret (v := .agg #[.bool true, .bool m, .bool l]) (by simp [results, Try.results20, go_sem, g0, g1, g2]) rfl ⟨rfl, ((hb4.setCell (p := ⟨w.heap.size, 0, none⟩) (Nat.le_refl _) _).setCell (p := ⟨w.heap.size, 1, none⟩) (Nat.le_refl _) _).setCell (p := ⟨w.heap.size, 2, none⟩) (Nat.le_refl _) _⟩

set_option maxHeartbeats 1000000 in
theorem kindsOf_some3 (A : Option Addr) (n c : Nat) (xs ys : List UInt8) (w : World) (hn0 : xs.length = n) (hc : n ≤ c) (ha : Rd w A xs) (ht : to4 xs = some ys) (hn : ys.length = 4)
    (hp1 : beginsB ys 8 [10] = false) (hp2 : beginsB ys 12 [172, 16] = false) (p : Bool) (hp3 : beginsB ys 16 [192, 168] = p) (m l : Bool) (hm : beginsB ys 4 [224] = m) (hl : beginsB ys 16 [169, 254] = l) :
    Calls Try.prog 20 #[.slice A n c] w fun e w' => KindsBack w p m l e w' := by
  have HN0 := Lib.hid hn0
  have HN := Lib.hid hn
  have HT := Lib.hid ht
  have HP1 := Lib.hid hp1
  have HP2 := Lib.hid hp2
  have HP3 := Lib.hid hp3
  have HM := Lib.hid hm
  have HL := Lib.hid hl
  clear hn0 hn ht hm hl hp1 hp2 hp3
  go_enter Try.func20, Try.ntmps20
  go_wp2_with fail
  refine (specTo4_any _ _ _ xs _ HN0.out hc (by exact ha.alloc _)).mono ?_
  rintro e w1 ⟨A1, n1, c1, rfl, hn1, hown1, hb1⟩
  rw [HT.out] at hn1 hown1 ⊢
  obtain rfl : n1 = 4 := by rw [← hn1]; exact HN.out
  clear hn1
  have hlt : w.heap.size < w1.heap.size := by have := hb1.size; simp at this; omega
  have k0 : w1.cell? ⟨w.heap.size, 0, none⟩ = some (.bool false) := (hb1.cell (p := ⟨w.heap.size, 0, none⟩) (by simp)).trans (by simp)
  have k1 : w1.cell? ⟨w.heap.size, 1, none⟩ = some (.bool false) := (hb1.cell (p := ⟨w.heap.size, 1, none⟩) (by simp)).trans (by simp)
  have k2 : w1.cell? ⟨w.heap.size, 2, none⟩ = some (.bool false) := (hb1.cell (p := ⟨w.heap.size, 2, none⟩) (by simp)).trans (by simp)
  have f0 : w1.frozen? ⟨w.heap.size, 0, none⟩ = false := (hb1.frozen (p := ⟨w.heap.size, 0, none⟩) (by simp)).trans (by simp)
  have f1 : w1.frozen? ⟨w.heap.size, 1, none⟩ = false := (hb1.frozen (p := ⟨w.heap.size, 1, none⟩) (by simp)).trans (by simp)
  have f2 : w1.frozen? ⟨w.heap.size, 2, none⟩ = false := (hb1.frozen (p := ⟨w.heap.size, 2, none⟩) (by simp)).trans (by simp)
  have hbw : Below w.heap.size w w1 := ((Below.refl _ _).alloc (Nat.le_refl _) _).trans (hb1.mono (by simp))
  have ha1 : Rd w1 A1 ys := Rd.of_own (xs := ys) hown1
  clear hb1 hown1
  go_wp2_with fail
  refine (begins_any _ _ 4 _ _ _ ys [10] 8 8 rfl _ HN.out rfl (by exact (ha1.alloc _)) (by exact Rd.newAt [10] (by simp) rfl) (by decide) (by decide) (by decide) (by decide) false HP1.out).mono ?_
  rintro e w2 ⟨rfl, rfl⟩
  go_wp2_with fail
  refine (begins_any _ _ 4 _ _ _ ys [172, 16] 12 12 rfl _ HN.out rfl (by exact ((ha1.alloc _).alloc _)) (by exact Rd.newAt [172, 16] (by simp) rfl) (by decide) (by decide) (by decide) (by decide) false HP2.out).mono ?_
  rintro e w2 ⟨rfl, rfl⟩
  go_wp2_with fail
  refine (begins_any _ _ 4 _ _ _ ys [192, 168] 16 16 rfl _ HN.out rfl (by exact (((ha1.alloc _).alloc _).alloc _)) (by exact Rd.newAt [192, 168] (by simp) rfl) (by decide) (by decide) (by decide) (by decide) p HP3.out).mono ?_
  rintro e w2 ⟨rfl, rfl⟩
  go_wp2_with fail
  refine (begins_any _ _ 4 _ _ _ ys [224] 4 4 rfl _ HN.out rfl (by exact ((((ha1.alloc _).alloc _).alloc _).alloc _)) (by exact Rd.newAt [224] (by simp) rfl) (by decide) (by decide) (by decide) (by decide) m HM.out).mono ?_
  rintro e w2 ⟨rfl, rfl⟩
  go_wp2_with fail
  refine (calls_bel (begins_any _ _ 4 _ _ _ ys [169, 254] 16 16 rfl _ HN.out rfl (by exact (((((ha1.alloc _).alloc _).alloc _).alloc _).alloc _)) (by exact Rd.newAt [169, 254] (by simp) rfl) (by decide) (by decide) (by decide) (by decide) l HL.out)).mono ?_
  rintro e w2 ⟨rfl, hb2⟩
  have hb3 : Below w1.heap.size w1 w2 := ((((((Below.refl _ _).alloc (Nat.le_refl _) _).alloc (by simp) _).alloc (by simp; omega) _).alloc (by simp; omega) _).alloc (by simp; omega) _).trans (hb2.mono (by simp; omega))
  have g0 := (hb3.cell (p := ⟨w.heap.size, 0, none⟩) hlt).trans k0
  have g1 := (hb3.cell (p := ⟨w.heap.size, 1, none⟩) hlt).trans k1
  have g2 := (hb3.cell (p := ⟨w.heap.size, 2, none⟩) hlt).trans k2
  have j0 := (hb3.frozen (p := ⟨w.heap.size, 0, none⟩) hlt).trans f0
  have j1 := (hb3.frozen (p := ⟨w.heap.size, 1, none⟩) hlt).trans f1
  have j2 := (hb3.frozen (p := ⟨w.heap.size, 2, none⟩) hlt).trans f2
  have hb4 : Below w.heap.size w w2 := hbw.trans (hb3.mono hbw.size)
  clear hb2 hb3 k0 k1 k2 f0 f1 f2 ha1 hbw
  go_wp2
  exact bodyPost_ret (v := .agg #[.bool p, .bool m, .bool l]) (by simp [results, Try.results20, go_sem, g0, g1, g2]) rfl ⟨rfl, ((hb4.setCell (p := ⟨w.heap.size, 0, none⟩) (Nat.le_refl _) _).setCell (p := ⟨w.heap.size, 1, none⟩) (Nat.le_refl _) _).setCell (p := ⟨w.heap.size, 2, none⟩) (Nat.le_refl _) _⟩

theorem kindsOf_any (A : Option Addr) (n c : Nat) (xs : List UInt8) (w : World) (hn : xs.length = n) (hc : n ≤ c) (ha : Rd w A xs) (hv : n = 4 ∨ n = 16) :
    Calls Try.prog 20 #[.slice A n c] w fun e w' => KindsBack w (kindOf pr4 pr6 xs) (kindOf mc4 mc6 xs) (kindOf ll4 ll6 xs) e w' := by
  rcases ht : to4 xs with _ | ys
  · have h16 : n = 16 := by
      rcases hv with h | h
      · rw [to4_four (by omega)] at ht; cases ht
      · exact h
    subst h16
    rw [kindOf_none ht (by omega), kindOf_none ht (by omega), kindOf_none ht (by omega)]
    match xs, hn with
    | x0 :: x1 :: r, hn => exact kindsOf_none A c (x0 :: x1 :: r) w hn hc ha ht _ _ _ (b_pr6 x0 x1 _) (b_mc6 x0 x1 _) (b_ll6 x0 x1 r)
  · have hl := to4_len ht
    match ys, hl with
    | [y0, y1, y2, y3], hl =>
      rw [kindOf_some ht, kindOf_some ht, kindOf_some ht]
      have hp := b_pr4 y0 y1 [y2, y3]
      by_cases h1 : beginsB [y0, y1, y2, y3] 8 [10] = true
      · have e1 : pr4 y0 y1 = true := by rw [← hp, h1]; rfl
        rw [e1]
        exact kindsOf_some1 A n c xs [y0, y1, y2, y3] w hn hc ha ht rfl h1 _ _ (b_mc4 y0 y1 _) (b_ll4 y0 y1 _)
      · have h1' : beginsB [y0, y1, y2, y3] 8 [10] = false := by simpa using h1
        by_cases h2 : beginsB [y0, y1, y2, y3] 12 [172, 16] = true
        · have e1 : pr4 y0 y1 = true := by rw [← hp, h1', h2]; rfl
          rw [e1]
          exact kindsOf_some2 A n c xs [y0, y1, y2, y3] w hn hc ha ht rfl h1' h2 _ _ (b_mc4 y0 y1 _) (b_ll4 y0 y1 _)
        · have h2' : beginsB [y0, y1, y2, y3] 12 [172, 16] = false := by simpa using h2
          exact kindsOf_some3 A n c xs [y0, y1, y2, y3] w hn hc ha ht rfl h1' h2' _ (by rw [← hp, h1', h2']; rfl) _ _ (b_mc4 y0 y1 _) (b_ll4 y0 y1 _)
end Go.Proofs.Ytebnhhifodmkkaa
