/-
  The walk of the law FnMixedForm. No condition.
-/
import Derived.Test.YtkmjejgeeghjmaaDoorReadsP
import Derived.Test.YtkmjejgeeghjmaaDoorSpecHex
import Derived.Test.YtkmjejgeeghjmaaDoorFour
namespace Go.Proofs.YtkmjejgeeghjmaaDoor
open Go.RowKit
set_option linter.unusedVariables false

/-- the digits of a group -/
def txh (xs : List UInt8) (i : Nat) : List UInt8 := hex [xs.getD (2 * i) 0, xs.getD (2 * i + 1) 0]
theorem txh_cut (xs : List UInt8) (h : xs.length = 16) (i : Nat) (hi : i < 8) : hex ((xs.drop (2 * i)).take 2) = txh xs i := by
  have e1 : xs.drop (2 * i) = xs[2 * i] :: xs[2 * i + 1] :: xs.drop (2 * i + 2) := by
    rw [List.drop_eq_getElem_cons (by omega), List.drop_eq_getElem_cons (by omega)]
  unfold txh
  rw [e1, List.getD_eq_getElem?_getD, List.getElem?_eq_getElem (by omega), List.getD_eq_getElem?_getD, List.getElem?_eq_getElem (by omega)]
  rfl
theorem txh_grp (xs : List UInt8) (h : xs.length = 16) (i : Nat) (hi : i < 8) : Grp (txh xs i) (gr xs i) := by
  rw [gr_at xs h i hi]
  exact grp_hex _ _
theorem txh_len (xs : List UInt8) (i : Nat) : (txh xs i).length = 4 := by simp [txh, hex, hex2]
theorem pt_len (xs : List UInt8) (k : Nat) : (pt (txh xs) 0 k).length = 5 * k := by
  induction k with
  | zero => rfl
  | succ k ih => rw [pt]; simp [ih, txh_len]; omega
theorem bv_six (xs : List UInt8) (h : xs.length = 16) : bv (gr xs) 0 6 ++ xs.drop 12 = xs := by
  have e := bv_gr xs h
  have e2 := bv_add (gr xs) 0 6 2
  rw [e] at e2
  have e3 : xs.take 12 = bv (gr xs) 0 6 := (congrArg (List.take 12) e2).trans (List.take_left' (bv_len _ _ _))
  rw [← e3, List.take_append_drop]
theorem reads_mixed (xs : List UInt8) (h : xs.length = 16) : Reads (pt (txh xs) 0 6 ++ dot4 (xs.drop 12)) xs := by
  have := t6_mixed (txh xs) (gr xs) (xs.drop 12) (fun i hi => txh_grp xs h i (by omega)) (by simp [h])
  rw [bv_six xs h] at this
  exact .inl ⟨true, this⟩

set_option maxRecDepth 100000 in
set_option maxHeartbeats 4000000 in
theorem walk_FnMixedForm (A : Option Addr) (n c : Nat) (xs : List UInt8) (w : World) (hn : xs.length = n) (hc : n ≤ c) (hs : c ≤ 140737488351232) (ha : Rd w A xs) (hvars : ∃ p4 p6, ZF w p4 p6) :
    Calls Tryd.prog 6 #[.slice A n c] w fun e w' => e = .returned (.bool true) ∧ Below w.heap.size w w' := by
  obtain ⟨p4, p6, hz⟩ := hvars
  by_cases h16 : n = 16
  · subst h16
    have HN := Lib.hid hn
    obtain ⟨b, off, rfl, hbl, _⟩ := ha.at_ (k := 0) (by omega)
    have hc' : (16 : Int) ≤ (c : Int) := by omega
    clear hn
    go_enter Tryd.func6, Tryd.ntmps6
    go_wp2
    go_loopw [10, 3] (fun i s wr => ∃ (k r : Nat) (l : List UInt8), k ≤ 6 ∧ i = .int .i64 (k : Int) ∧ s = .string ⟨l.toArray⟩ ∧ l.length ≤ 30 ∧ Hid (l = pt (txh xs) 0 k) ∧ wr = w.drewN r) (fun i _ _ => 6 - (intOf i).toNat)
    case atStart => exact ⟨0, 0, [], by omega, rfl, rfl, by simp, rfl, rfl⟩
    case round =>
      obtain ⟨k, r, l, hk, rfl, rfl, hl, HL, rfl⟩ := hrel
      by_cases hlt : k < 6
      · have HX := Lib.hid (txh_cut xs HN.out k (by omega))
        have H2 := Lib.hid (show ((xs.drop (2 * k)).take 2).length = 2 by simp [HN.out]; omega)
        have HP := Lib.hid (show l ++ (txh xs k ++ [58]) = pt (txh xs) 0 (k + 1) by rw [HL.out, pt, Nat.zero_add])
        have HL2 := Lib.hid (show (l ++ (txh xs k ++ [58])).length ≤ 30 by rw [HP.out, pt_len]; omega)
        have hx4 := txh_len xs k
        generalize txh xs k = T at HX HP HL2 hx4
        have HX4 := Lib.hid hx4
        have hx5 : T.length ≤ 4 := by omega
        clear hx4
        go_wp2_with fail
        refine (specHex_any _ _ _ ((xs.drop (2 * k)).take 2) _ H2.out (by exact ha.cut (2 * k) 2) (by decide)).mono ?_
        rintro e w1 ⟨rfl, k1, rfl⟩
        rw [HX.out]
        go_wp2
        go_roundw
        case rel => exact ⟨k + 1, _, l ++ (T ++ [58]), by omega, by go_num, by rw [← ba_app, ← ba_app], HL2.out, HP.out, rfl⟩
        case measure => simp [intOf]; omega
      · have hk6 : Hid (k = 6) := by show k = 6; omega
        have HF := Lib.hid (show (xs.drop 12).length = 4 by simp [HN.out])
        have HRD := Lib.hid (reads_mixed xs HN.out)
        have HLL := Lib.hid (show l = pt (txh xs) 0 6 by rw [HL.out, hk6.out])
        have d4 := dot4_len (xs.drop 12)
        go_wp2_with fail
        refine (four_any _ _ (xs.drop 12) _ HF.out (by exact ha.drop 12)).mono ?_
        rintro e w1 ⟨rfl, hb1'⟩
        have hb1 : Below w.heap.size w w1 := below_undrewN hb1'
        rw [← HLL.out] at HRD
        generalize dot4 (xs.drop 12) = T at HRD d4 ⊢
        have HAPP := Lib.hid (ba_app l T)
        have ht9 : ¬ 9223372036854775807 < l.length + T.length := by omega
        go_wp2_with fail
        rw [HAPP.out]
        refine (implParseIP_any HRD.out p4 p6 _ (hz.below hb1)).mono ?_
        rintro e w2 ⟨A2, n2, c2, rfl, hn2, hown2, hb2'⟩
        have hb2 := hb1.trans (hb2'.mono hb1.size)
        have hn2' : n2 = 16 := by rw [← hn2]; exact HN.out
        subst hn2'
        clear hn2
        go_wp2_with fail
        refine (same_any _ _ _ _ _ _ xs xs _ HN.out HN.out (by exact Rd.of_own hown2) (by exact ha.below hb2) (by decide) true (eqb_true rfl)).mono ?_
        rintro e w3 ⟨rfl, k3, rfl⟩
        go_wp2
        go_ret
        exact ⟨rfl, below_drewN hb2 _⟩
  · have e16 : ((n : Int) != 16) = true := by simp; omega
    clear h16 hn
    go_enter Tryd.func6, Tryd.ntmps6
    go_wp2
    go_ret
    exact ⟨rfl, Below.refl _ _⟩
end Go.Proofs.YtkmjejgeeghjmaaDoor
