/-
  Contract of spec.Dots; the walk of the statement FnParseMACAll: it returns true and changes nothing that was there.
-/
import Derived.Test.YtemfbjkcemhkjaaWMac
import Derived.Test.YtemfbjkcemhkjaaStrs
namespace Go.Proofs.Ytemfbjkcemhkjaa
open Go.RowKit
set_option linter.unusedVariables false

theorem cell_new {w : World} {k : Nat} {v : Value} {cs : Array Value} {t : TypeId} (hk : w.heap.size = k) (hv : cs[0]? = some v) : (w.alloc (.cells cs t)).cell? ⟨k, 0, none⟩ = some v := by
  subst hk
  rw [cell_of_row _ _ 0 cs t (0, 0) (heap_alloc_new w _)]
  exact hv
theorem tx2_step0 (xs : List UInt8) (h : 1 < xs.length) : tx 46 2 (xs.take 2) = hex [xs[0], xs[1]] := by
  match xs, h with
  | x :: y :: r, _ => simp [tx, txFrom, hex]
theorem tx2_stepS (xs : List UInt8) (k : Nat) (hk : 0 < k) (h : 2 * k + 1 < xs.length) : tx 46 2 (xs.take (2 * k + 2)) = tx 46 2 (xs.take (2 * k)) ++ (46 :: hex [xs[2 * k], xs[2 * k + 1]]) := by
  rw [List.take_succ_eq_append_getElem h, tx_snoc, List.take_succ_eq_append_getElem (show 2 * k < xs.length by omega), tx_snoc]
  have l1 : (xs.take (2 * k)).length = 2 * k := by simp; omega
  rw [List.length_append, l1, if_pos ⟨by omega, by omega⟩, if_neg (by simp)]
  simp [hex]
theorem cut_two (xs : List UInt8) (k : Nat) (h : 2 * k + 1 < xs.length) : (xs.drop (2 * k)).take 2 = [xs[2 * k], xs[2 * k + 1]] := by
  rw [List.drop_eq_getElem_cons (show 2 * k < xs.length by omega), List.drop_eq_getElem_cons h]; rfl

set_option maxHeartbeats 1000000 in
theorem dots_6 (A : Option Addr) (c : Nat) (xs : List UInt8) (w : World) (hn : xs.length = 6) (hc : 6 ≤ c) (ha : Rd w A xs) :
    Calls Try.prog 12 #[.slice A 6 c] w fun e w' => e = .returned (.string ⟨(tx 46 2 xs).toArray⟩) ∧ ∃ k, w' = w.drewN k := by
  have HN := Lib.hid hn
  obtain ⟨b, off, rfl, _, _⟩ := ha.at_ (k := 0) (by omega)
  clear hn
  go_enter Try.func12, Try.ntmps12
  go_wp2
  go_loopw [4, 3] (fun i s wr => ∃ (k r : Nat) (l : List UInt8), k ≤ 3 ∧ i = .int .i64 (2 * (k : Int)) ∧ wr = w.drewN r ∧ s = .string ⟨l.toArray⟩ ∧ l.length ≤ 5 * k ∧ Hid (l = tx 46 2 (xs.take (2 * k)))) (fun i _ _ => 6 - (intOf i).toNat)
  case atStart => exact ⟨0, 0, [], by decide, rfl, rfl, rfl, Nat.le_refl _, rfl⟩
  case round =>
    obtain ⟨k, r, l, hk, rfl, rfl, rfl, hl, HL⟩ := hrel
    by_cases hlt : k < 3
    · have hkl : 2 * k + 1 < xs.length := by rw [HN.out]; omega
      have hcut := ha.cut (2 * k) 2
      rw [cut_two xs k hkl] at hcut
      have h5 := hex_length [xs[2 * k], xs[2 * k + 1]]
      have hh : (hex [xs[2 * k], xs[2 * k + 1]]).length ≤ 4 := by rw [h5]; simp
      clear h5
      rcases k with _ | k
      · have HT := Lib.hid (show tx 46 2 (xs.take 2) = l ++ hex [xs[2 * 0], xs[2 * 0 + 1]] by rw [HL.out]; exact tx2_step0 xs hkl)
        generalize hq : [xs[2 * 0], xs[2 * 0 + 1]] = q at hcut HT hh
        have HQ := Lib.hid (show q.length = 2 by rw [← hq]; rfl)
        clear hq
        go_wp2_with fail
        refine (specHex_any _ 2 _ q _ HQ.out (by exact hcut.drewN _) (by decide)).mono ?_
        rintro e w2 ⟨rfl, k2, rfl⟩
        go_wp2
        go_roundw
        case rel => exact ⟨1, r + k2, l ++ hex q, by omega, rfl, rfl, by rw [ba_app], by simp; omega, HT.out.symm⟩
        case measure => simp [intOf]
      · have HT := Lib.hid (show tx 46 2 (xs.take (2 * (k + 1) + 2)) = l ++ (46 :: hex [xs[2 * (k + 1)], xs[2 * (k + 1) + 1]]) by rw [HL.out]; exact tx2_stepS xs (k + 1) (by omega) hkl)
        generalize hq : [xs[2 * (k + 1)], xs[2 * (k + 1) + 1]] = q at hcut HT hh
        have HQ := Lib.hid (show q.length = 2 by rw [← hq]; rfl)
        clear hq
        go_wp2_with fail
        refine (specHex_any _ 2 _ q _ HQ.out (by exact hcut.drewN _) (by decide)).mono ?_
        rintro e w2 ⟨rfl, k2, rfl⟩
        go_wp2
        go_roundw
        case rel => exact ⟨k + 1 + 1, r + k2, l ++ (46 :: hex q), by omega, by go_num, rfl, by simp [ba_app], by simp; omega, HT.out.symm⟩
        case measure => simp [intOf]; omega
    · have HF := Lib.hid (show l = tx 46 2 xs by rw [HL.out, List.take_of_length_le (by rw [HN.out]; omega)])
      go_wp2
      go_ret
      refine ⟨?_, r, rfl⟩
      rw [← HF.out]
      rfl

set_option maxHeartbeats 1000000 in
theorem dots_8 (A : Option Addr) (c : Nat) (xs : List UInt8) (w : World) (hn : xs.length = 8) (hc : 8 ≤ c) (ha : Rd w A xs) :
    Calls Try.prog 12 #[.slice A 8 c] w fun e w' => e = .returned (.string ⟨(tx 46 2 xs).toArray⟩) ∧ ∃ k, w' = w.drewN k := by
  have HN := Lib.hid hn
  obtain ⟨b, off, rfl, _, _⟩ := ha.at_ (k := 0) (by omega)
  clear hn
  go_enter Try.func12, Try.ntmps12
  go_wp2
  go_loopw [4, 3] (fun i s wr => ∃ (k r : Nat) (l : List UInt8), k ≤ 4 ∧ i = .int .i64 (2 * (k : Int)) ∧ wr = w.drewN r ∧ s = .string ⟨l.toArray⟩ ∧ l.length ≤ 5 * k ∧ Hid (l = tx 46 2 (xs.take (2 * k)))) (fun i _ _ => 8 - (intOf i).toNat)
  case atStart => exact ⟨0, 0, [], by decide, rfl, rfl, rfl, Nat.le_refl _, rfl⟩
  case round =>
    obtain ⟨k, r, l, hk, rfl, rfl, rfl, hl, HL⟩ := hrel
    by_cases hlt : k < 4
    · have hkl : 2 * k + 1 < xs.length := by rw [HN.out]; omega
      have hcut := ha.cut (2 * k) 2
      rw [cut_two xs k hkl] at hcut
      have h5 := hex_length [xs[2 * k], xs[2 * k + 1]]
      have hh : (hex [xs[2 * k], xs[2 * k + 1]]).length ≤ 4 := by rw [h5]; simp
      clear h5
      rcases k with _ | k
      · have HT := Lib.hid (show tx 46 2 (xs.take 2) = l ++ hex [xs[2 * 0], xs[2 * 0 + 1]] by rw [HL.out]; exact tx2_step0 xs hkl)
        generalize hq : [xs[2 * 0], xs[2 * 0 + 1]] = q at hcut HT hh
        have HQ := Lib.hid (show q.length = 2 by rw [← hq]; rfl)
        clear hq
        go_wp2_with fail
        refine (specHex_any _ 2 _ q _ HQ.out (by exact hcut.drewN _) (by decide)).mono ?_
        rintro e w2 ⟨rfl, k2, rfl⟩
        go_wp2
        go_roundw
        case rel => exact ⟨1, r + k2, l ++ hex q, by omega, rfl, rfl, by rw [ba_app], by simp; omega, HT.out.symm⟩
        case measure => simp [intOf]
      · have HT := Lib.hid (show tx 46 2 (xs.take (2 * (k + 1) + 2)) = l ++ (46 :: hex [xs[2 * (k + 1)], xs[2 * (k + 1) + 1]]) by rw [HL.out]; exact tx2_stepS xs (k + 1) (by omega) hkl)
        generalize hq : [xs[2 * (k + 1)], xs[2 * (k + 1) + 1]] = q at hcut HT hh
        have HQ := Lib.hid (show q.length = 2 by rw [← hq]; rfl)
        clear hq
        go_wp2_with fail
        refine (specHex_any _ 2 _ q _ HQ.out (by exact hcut.drewN _) (by decide)).mono ?_
        rintro e w2 ⟨rfl, k2, rfl⟩
        go_wp2
        go_roundw
        case rel => exact ⟨k + 1 + 1, r + k2, l ++ (46 :: hex q), by omega, by go_num, rfl, by simp [ba_app], by simp; omega, HT.out.symm⟩
        case measure => simp [intOf]; omega
    · have HF := Lib.hid (show l = tx 46 2 xs by rw [HL.out, List.take_of_length_le (by rw [HN.out]; omega)])
      go_wp2
      go_ret
      refine ⟨?_, r, rfl⟩
      rw [← HF.out]
      rfl

set_option maxHeartbeats 1000000 in
theorem dots_20 (A : Option Addr) (c : Nat) (xs : List UInt8) (w : World) (hn : xs.length = 20) (hc : 20 ≤ c) (ha : Rd w A xs) :
    Calls Try.prog 12 #[.slice A 20 c] w fun e w' => e = .returned (.string ⟨(tx 46 2 xs).toArray⟩) ∧ ∃ k, w' = w.drewN k := by
  have HN := Lib.hid hn
  obtain ⟨b, off, rfl, _, _⟩ := ha.at_ (k := 0) (by omega)
  clear hn
  go_enter Try.func12, Try.ntmps12
  go_wp2
  go_loopw [4, 3] (fun i s wr => ∃ (k r : Nat) (l : List UInt8), k ≤ 10 ∧ i = .int .i64 (2 * (k : Int)) ∧ wr = w.drewN r ∧ s = .string ⟨l.toArray⟩ ∧ l.length ≤ 5 * k ∧ Hid (l = tx 46 2 (xs.take (2 * k)))) (fun i _ _ => 20 - (intOf i).toNat)
  case atStart => exact ⟨0, 0, [], by decide, rfl, rfl, rfl, Nat.le_refl _, rfl⟩
  case round =>
    obtain ⟨k, r, l, hk, rfl, rfl, rfl, hl, HL⟩ := hrel
    by_cases hlt : k < 10
    · have hkl : 2 * k + 1 < xs.length := by rw [HN.out]; omega
      have hcut := ha.cut (2 * k) 2
      rw [cut_two xs k hkl] at hcut
      have h5 := hex_length [xs[2 * k], xs[2 * k + 1]]
      have hh : (hex [xs[2 * k], xs[2 * k + 1]]).length ≤ 4 := by rw [h5]; simp
      clear h5
      rcases k with _ | k
      · have HT := Lib.hid (show tx 46 2 (xs.take 2) = l ++ hex [xs[2 * 0], xs[2 * 0 + 1]] by rw [HL.out]; exact tx2_step0 xs hkl)
        generalize hq : [xs[2 * 0], xs[2 * 0 + 1]] = q at hcut HT hh
        have HQ := Lib.hid (show q.length = 2 by rw [← hq]; rfl)
        clear hq
        go_wp2_with fail
        refine (specHex_any _ 2 _ q _ HQ.out (by exact hcut.drewN _) (by decide)).mono ?_
        rintro e w2 ⟨rfl, k2, rfl⟩
        go_wp2
        go_roundw
        case rel => exact ⟨1, r + k2, l ++ hex q, by omega, rfl, rfl, by rw [ba_app], by simp; omega, HT.out.symm⟩
        case measure => simp [intOf]
      · have HT := Lib.hid (show tx 46 2 (xs.take (2 * (k + 1) + 2)) = l ++ (46 :: hex [xs[2 * (k + 1)], xs[2 * (k + 1) + 1]]) by rw [HL.out]; exact tx2_stepS xs (k + 1) (by omega) hkl)
        generalize hq : [xs[2 * (k + 1)], xs[2 * (k + 1) + 1]] = q at hcut HT hh
        have HQ := Lib.hid (show q.length = 2 by rw [← hq]; rfl)
        clear hq
        go_wp2_with fail
        refine (specHex_any _ 2 _ q _ HQ.out (by exact hcut.drewN _) (by decide)).mono ?_
        rintro e w2 ⟨rfl, k2, rfl⟩
        go_wp2
        go_roundw
        case rel => exact ⟨k + 1 + 1, r + k2, l ++ (46 :: hex q), by omega, by go_num, rfl, by simp [ba_app], by simp; omega, HT.out.symm⟩
        case measure => simp [intOf]; omega
    · have HF := Lib.hid (show l = tx 46 2 xs by rw [HL.out, List.take_of_length_le (by rw [HN.out]; omega)])
      go_wp2
      go_ret
      refine ⟨?_, r, rfl⟩
      rw [← HF.out]
      rfl

set_option maxHeartbeats 2000000 in
theorem FnMacAll_6 (A : Option Addr) (c : Nat) (xs : List UInt8) (w : World) (hn : xs.length = 6) (hc : 6 ≤ c) (hs : c ≤ 140737488351232) (ha : Rd w A xs) :
    Calls Try.prog 5 #[.slice A 6 c] w fun e w' => e = .returned (.bool true) ∧ Below w.heap.size w w' := by
  have HN := Lib.hid hn
  obtain ⟨fs, hfs⟩ : ∃ fs, fs = [mac [58] xs, mac [45] xs, tx 46 2 xs, hex xs] := ⟨_, rfl⟩
  have HFL := Lib.hid (show fs.length = 4 by rw [hfs]; rfl)
  have HFS := Lib.hid (show ∀ f ∈ fs, MacForm f xs by
    intro f hf
    rw [hfs] at hf
    simp only [List.mem_cons, List.not_mem_nil, or_false] at hf
    rcases hf with rfl | rfl | rfl | rfl
    · exact .inr ⟨.inl hn, .inl (mac_tx 58 xs)⟩
    · exact .inr ⟨.inl hn, .inr (.inl (mac_tx 45 xs))⟩
    · exact .inr ⟨.inl hn, .inr (.inr rfl)⟩
    · exact .inl ⟨hn, rfl⟩)
  have HE := Lib.hid hfs
  clear hfs hn
  go_enter Try.func5, Try.ntmps5
  go_wp2_with fail
  refine (specMAC_any _ _ _ xs 58 _ HN.out hc (by exact ha) hs).mono ?_
  rintro e w1 ⟨rfl, k1, rfl⟩
  go_wp2_with fail
  refine (specMAC_any _ _ _ xs 45 _ HN.out hc (by exact ha.drewN _) hs).mono ?_
  rintro e w2 ⟨rfl, k2, rfl⟩
  go_wp2_with fail
  refine (dots_6 _ _ xs _ HN.out hc (by exact ha.drewN _)).mono ?_
  rintro e w3 ⟨rfl, k3, rfl⟩
  go_wp2_with fail
  refine (specHex_any _ _ _ xs _ HN.out (by exact (ha.alloc _).drewN _) (by decide)).mono ?_
  rintro e w4 ⟨rfl, k4, rfl⟩
  have ho0 : (w.alloc (.cells (css [mac [58] xs, mac [45] xs, tx 46 2 xs]).toArray 9)).ownsRow w.heap.size 9 1 (.slice (some ⟨w.heap.size, 0, none⟩) 3 3) 3 (css [mac [58] xs, mac [45] xs, tx 46 2 xs]) := block_ownS (heap_alloc_new _ _) (Nat.le_refl _) rfl (by decide)
  go_wp2_with (at_builtin; refine wpList_app1 rfl (.tmp 31) (.tmp 34) 31 rfl w.heap.size 9 _ 16 Try.underlying31 infoS rfl _ 3 (css [mac [58] xs, mac [45] xs, tx 46 2 xs]) rfl ?c0 (w.heap.size + 1) (.string ⟨(hex xs).toArray⟩) rfl ?c1 rfl ?c2 ?c3 ?c4 ?_)
  case c0 => exact ho0.alloc _
  case c1 => exact cell_new (by show (w.heap.push _).size = _; simp) rfl
  case c2 => decide
  case c3 => decide
  case c4 => simp; omega
  intro A5 c5 w5 ho5 hg5
  have hb5 : Below w.heap.size w w5 := own_below (wr := ((w.drewN (k1 + k2 + k3)).alloc _).drewN k4) ho0 (below_drewN (below_undrewN ((Below.refl w.heap.size (w.drewN (k1 + k2 + k3))).alloc (Nat.le_refl _) _)) _) hg5
  have e5 : css fs = css [mac [58] xs, mac [45] xs, tx 46 2 xs] ++ [.string ⟨(hex xs).toArray⟩] := by rw [HE.out]; rfl
  rw [← e5] at ho5
  clear e5
  obtain ⟨g, cap, hv5, _, hlt5⟩ := ho5.form (by decide)
  have hA5 : A5 = some ⟨g, 0, none⟩ := by injection hv5
  subst hA5
  have HC5 := Lib.hid (own_cellS ho5 HFL.out)
  clear hv5
  go_wp2
  go_loopw [38, 2] (fun i q wr => ∃ k : Nat, k ≤ 4 ∧ i = .int .i64 k ∧ q = .bool false ∧ Below w.heap.size w wr ∧ g < wr.heap.size ∧ Hid (∀ j (h : j < fs.length), wr.cell? ⟨g, j, none⟩ = some (.string ⟨(fs[j]).toArray⟩))) (fun i _ _ => 4 - (intOf i).toNat)
  case atStart => exact ⟨0, by decide, rfl, rfl, hb5, hlt5, HC5.out⟩
  case round =>
    obtain ⟨k, hk, rfl, rfl, hb, hlt, HC⟩ := hrel
    by_cases hkn : k < 4
    · have hkl : k < fs.length := by rw [HFL.out]; exact hkn
      have c0 := HC.out k hkl
      have HF := Lib.hid (HFS.out _ (List.getElem_mem hkl))
      generalize fs[k] = f at c0 HF
      go_wp2_with fail
      refine (implMac_any f xs _ HF.out).mono ?_
      rintro e w2 ⟨A2, n2, c2, rfl, hn2, hown2, hb2⟩
      obtain rfl : n2 = 6 := by rw [← hn2]; exact HN.out
      clear hn2
      have hs2 := hb2.size
      have HC2 := Lib.hid (show ∀ j (h : j < fs.length), w2.cell? ⟨g, j, none⟩ = some (.string ⟨(fs[j]).toArray⟩) from fun j h => (hb2.cell (p := ⟨g, j, none⟩) hlt).trans (HC.out j h))
      go_wp2_with fail
      refine (same_any _ _ _ _ _ _ xs xs _ HN.out HN.out (by exact Rd.of_own (xs := xs) hown2) (by exact (ha.below hb).below hb2) (by decide) true (eqb_true rfl)).mono ?_
      rintro e w3 ⟨rfl, k3, rfl⟩
      go_wp2
      go_roundw
      case rel => exact ⟨k + 1, by omega, by go_num, rfl, below_drewN (hb.trans (hb2.mono hb.size)) _, (by show g < w2.heap.size; omega), HC2.out⟩
      case measure => simp [intOf]; omega
    · go_wp2
      go_ret
      exact ⟨rfl, hb⟩

set_option maxHeartbeats 2000000 in
theorem FnMacAll_8 (A : Option Addr) (c : Nat) (xs : List UInt8) (w : World) (hn : xs.length = 8) (hc : 8 ≤ c) (hs : c ≤ 140737488351232) (ha : Rd w A xs) :
    Calls Try.prog 5 #[.slice A 8 c] w fun e w' => e = .returned (.bool true) ∧ Below w.heap.size w w' := by
  have HN := Lib.hid hn
  obtain ⟨fs, hfs⟩ : ∃ fs, fs = [mac [58] xs, mac [45] xs, tx 46 2 xs] := ⟨_, rfl⟩
  have HFL := Lib.hid (show fs.length = 3 by rw [hfs]; rfl)
  have HFS := Lib.hid (show ∀ f ∈ fs, MacForm f xs by
    intro f hf
    rw [hfs] at hf
    simp only [List.mem_cons, List.not_mem_nil, or_false] at hf
    rcases hf with rfl | rfl | rfl
    · exact .inr ⟨.inr (.inl hn), .inl (mac_tx 58 xs)⟩
    · exact .inr ⟨.inr (.inl hn), .inr (.inl (mac_tx 45 xs))⟩
    · exact .inr ⟨.inr (.inl hn), .inr (.inr rfl)⟩)
  have HE := Lib.hid hfs
  clear hfs hn
  go_enter Try.func5, Try.ntmps5
  go_wp2_with fail
  refine (specMAC_any _ _ _ xs 58 _ HN.out hc (by exact ha) hs).mono ?_
  rintro e w1 ⟨rfl, k1, rfl⟩
  go_wp2_with fail
  refine (specMAC_any _ _ _ xs 45 _ HN.out hc (by exact ha.drewN _) hs).mono ?_
  rintro e w2 ⟨rfl, k2, rfl⟩
  go_wp2_with fail
  refine (dots_8 _ _ xs _ HN.out hc (by exact ha.drewN _)).mono ?_
  rintro e w3 ⟨rfl, k3, rfl⟩
  go_wp2
  go_loopw [38, 2] (fun i q wr => ∃ k : Nat, k ≤ 3 ∧ i = .int .i64 k ∧ q = .bool false ∧ Below w.heap.size w wr ∧ w.heap.size < wr.heap.size ∧ Hid (∀ j (h : j < fs.length), wr.cell? ⟨w.heap.size, j, none⟩ = some (.string ⟨(fs[j]).toArray⟩))) (fun i _ _ => 3 - (intOf i).toNat)
  case atStart => exact ⟨0, by decide, rfl, rfl, below_drewN ((Below.refl _ _).alloc (Nat.le_refl _) _) _, by simp, (show ∀ j (h : j < fs.length), World.cell? _ ⟨w.heap.size, j, none⟩ = some (.string ⟨(fs[j]).toArray⟩) from fun j h => by
        have hE := HE.out
        subst hE
        match j, h with
        | 0, _ => exact cell_of_row (w.alloc _) _ 0 _ _ _ (heap_alloc_new w _)
        | 1, _ => exact cell_of_row (w.alloc _) _ 1 _ _ _ (heap_alloc_new w _)
        | 2, _ => exact cell_of_row (w.alloc _) _ 2 _ _ _ (heap_alloc_new w _))⟩
  case round =>
    obtain ⟨k, hk, rfl, rfl, hb, hlt, HC⟩ := hrel
    by_cases hkn : k < 3
    · have hkl : k < fs.length := by rw [HFL.out]; exact hkn
      have c0 := HC.out k hkl
      have HF := Lib.hid (HFS.out _ (List.getElem_mem hkl))
      generalize fs[k] = f at c0 HF
      go_wp2_with fail
      refine (implMac_any f xs _ HF.out).mono ?_
      rintro e w2 ⟨A2, n2, c2, rfl, hn2, hown2, hb2⟩
      obtain rfl : n2 = 8 := by rw [← hn2]; exact HN.out
      clear hn2
      have hs2 := hb2.size
      have HC2 := Lib.hid (show ∀ j (h : j < fs.length), w2.cell? ⟨w.heap.size, j, none⟩ = some (.string ⟨(fs[j]).toArray⟩) from fun j h => (hb2.cell (p := ⟨w.heap.size, j, none⟩) hlt).trans (HC.out j h))
      go_wp2_with fail
      refine (same_any _ _ _ _ _ _ xs xs _ HN.out HN.out (by exact Rd.of_own (xs := xs) hown2) (by exact (ha.below hb).below hb2) (by decide) true (eqb_true rfl)).mono ?_
      rintro e w3 ⟨rfl, k3, rfl⟩
      go_wp2
      go_roundw
      case rel => exact ⟨k + 1, by omega, by go_num, rfl, below_drewN (hb.trans (hb2.mono hb.size)) _, (by show w.heap.size < w2.heap.size; omega), HC2.out⟩
      case measure => simp [intOf]; omega
    · go_wp2
      go_ret
      exact ⟨rfl, hb⟩

set_option maxHeartbeats 2000000 in
theorem FnMacAll_20 (A : Option Addr) (c : Nat) (xs : List UInt8) (w : World) (hn : xs.length = 20) (hc : 20 ≤ c) (hs : c ≤ 140737488351232) (ha : Rd w A xs) :
    Calls Try.prog 5 #[.slice A 20 c] w fun e w' => e = .returned (.bool true) ∧ Below w.heap.size w w' := by
  have HN := Lib.hid hn
  obtain ⟨fs, hfs⟩ : ∃ fs, fs = [mac [58] xs, mac [45] xs, tx 46 2 xs] := ⟨_, rfl⟩
  have HFL := Lib.hid (show fs.length = 3 by rw [hfs]; rfl)
  have HFS := Lib.hid (show ∀ f ∈ fs, MacForm f xs by
    intro f hf
    rw [hfs] at hf
    simp only [List.mem_cons, List.not_mem_nil, or_false] at hf
    rcases hf with rfl | rfl | rfl
    · exact .inr ⟨.inr (.inr hn), .inl (mac_tx 58 xs)⟩
    · exact .inr ⟨.inr (.inr hn), .inr (.inl (mac_tx 45 xs))⟩
    · exact .inr ⟨.inr (.inr hn), .inr (.inr rfl)⟩)
  have HE := Lib.hid hfs
  clear hfs hn
  go_enter Try.func5, Try.ntmps5
  go_wp2_with fail
  refine (specMAC_any _ _ _ xs 58 _ HN.out hc (by exact ha) hs).mono ?_
  rintro e w1 ⟨rfl, k1, rfl⟩
  go_wp2_with fail
  refine (specMAC_any _ _ _ xs 45 _ HN.out hc (by exact ha.drewN _) hs).mono ?_
  rintro e w2 ⟨rfl, k2, rfl⟩
  go_wp2_with fail
  refine (dots_20 _ _ xs _ HN.out hc (by exact ha.drewN _)).mono ?_
  rintro e w3 ⟨rfl, k3, rfl⟩
  go_wp2
  go_loopw [38, 2] (fun i q wr => ∃ k : Nat, k ≤ 3 ∧ i = .int .i64 k ∧ q = .bool false ∧ Below w.heap.size w wr ∧ w.heap.size < wr.heap.size ∧ Hid (∀ j (h : j < fs.length), wr.cell? ⟨w.heap.size, j, none⟩ = some (.string ⟨(fs[j]).toArray⟩))) (fun i _ _ => 3 - (intOf i).toNat)
  case atStart => exact ⟨0, by decide, rfl, rfl, below_drewN ((Below.refl _ _).alloc (Nat.le_refl _) _) _, by simp, (show ∀ j (h : j < fs.length), World.cell? _ ⟨w.heap.size, j, none⟩ = some (.string ⟨(fs[j]).toArray⟩) from fun j h => by
        have hE := HE.out
        subst hE
        match j, h with
        | 0, _ => exact cell_of_row (w.alloc _) _ 0 _ _ _ (heap_alloc_new w _)
        | 1, _ => exact cell_of_row (w.alloc _) _ 1 _ _ _ (heap_alloc_new w _)
        | 2, _ => exact cell_of_row (w.alloc _) _ 2 _ _ _ (heap_alloc_new w _))⟩
  case round =>
    obtain ⟨k, hk, rfl, rfl, hb, hlt, HC⟩ := hrel
    by_cases hkn : k < 3
    · have hkl : k < fs.length := by rw [HFL.out]; exact hkn
      have c0 := HC.out k hkl
      have HF := Lib.hid (HFS.out _ (List.getElem_mem hkl))
      generalize fs[k] = f at c0 HF
      go_wp2_with fail
      refine (implMac_any f xs _ HF.out).mono ?_
      rintro e w2 ⟨A2, n2, c2, rfl, hn2, hown2, hb2⟩
      obtain rfl : n2 = 20 := by rw [← hn2]; exact HN.out
      clear hn2
      have hs2 := hb2.size
      have HC2 := Lib.hid (show ∀ j (h : j < fs.length), w2.cell? ⟨w.heap.size, j, none⟩ = some (.string ⟨(fs[j]).toArray⟩) from fun j h => (hb2.cell (p := ⟨w.heap.size, j, none⟩) hlt).trans (HC.out j h))
      go_wp2_with fail
      refine (same_any _ _ _ _ _ _ xs xs _ HN.out HN.out (by exact Rd.of_own (xs := xs) hown2) (by exact (ha.below hb).below hb2) (by decide) true (eqb_true rfl)).mono ?_
      rintro e w3 ⟨rfl, k3, rfl⟩
      go_wp2
      go_roundw
      case rel => exact ⟨k + 1, by omega, by go_num, rfl, below_drewN (hb.trans (hb2.mono hb.size)) _, (by show w.heap.size < w2.heap.size; omega), HC2.out⟩
      case measure => simp [intOf]; omega
    · go_wp2
      go_ret
      exact ⟨rfl, hb⟩

set_option maxHeartbeats 400000 in
theorem walk_FnParseMACAll (A : Option Addr) (n c : Nat) (xs : List UInt8) (w : World) (hn : xs.length = n) (hc : n ≤ c) (hs : c ≤ 140737488351232) (ha : Rd w A xs) :
    Calls Try.prog 5 #[.slice A n c] w fun e w' => e = .returned (.bool true) ∧ Below w.heap.size w w' := by
  by_cases hv : n = 6 ∨ n = 8 ∨ n = 20
  · rcases hv with rfl | rfl | rfl
    · exact FnMacAll_6 A c xs w hn hc hs ha
    · exact FnMacAll_8 A c xs w hn hc hs ha
    · exact FnMacAll_20 A c xs w hn hc hs ha
  · have t1 : ((n : Int) != 6) = true := by simp; omega
    have t2 : ((n : Int) != 8) = true := by simp; omega
    have t3 : ((n : Int) != 20) = true := by simp; omega
    clear hv hn
    go_enter Try.func5, Try.ntmps5
    go_wp2
    go_ret
    exact ⟨rfl, Below.refl _ _⟩
end Go.Proofs.Ytemfbjkcemhkjaa
