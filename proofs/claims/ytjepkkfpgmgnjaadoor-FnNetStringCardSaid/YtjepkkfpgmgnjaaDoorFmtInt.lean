/-
  Contracts of internal/strconv.FormatInt and Itoa at numbers below 256. No condition.
-/
import Derived.Test.YtjepkkfpgmgnjaaDoorFmt10
namespace Go.Proofs.YtjepkkfpgmgnjaaDoor
open Go.RowKit
set_option linter.unusedVariables false

theorem cell_lt' {w : World} {b o : Nat} {v : Value} (h : w.cell? ⟨b, o, none⟩ = some v) : b < w.heap.size := by
  rcases Nat.lt_or_ge b w.heap.size with h' | h'
  · exact h'
  · simp [World.cell?, Array.getElem?_eq_none h'] at h
theorem len24 : Tryd.prog.arrayLen 102 = 24 := by kernel_rfl
theorem elem24 : Tryd.prog.elem 102 = 5 := by kernel_rfl
theorem und24 : Tryd.prog.underlying 102 = some (.array (Tryd.prog.arrayLen 102) (Tryd.prog.elem 102)) := by kernel_rfl
theorem size8' (W : World) : (sizeOf 5).run Tryd.prog W = .ok 1 W := by
  obtain ⟨i, hi, hz, hz1, hz2⟩ := info_parts info8
  simp [sizeOf, typeInfo, hi, hz1]
theorem slice24 (B l h : Nat) (hl : l ≤ h) (h16 : h ≤ 24) (hl16 : l < 24) (Lo Hi : Int) (e1 : Lo = (l : Int)) (e2 : Hi = (h : Int)) (W : World) :
    (Instr.sliceAt 102 (.pointer (some ⟨B, 0, none⟩)) (some (.int .i64 Lo)) (some (.int .i64 Hi)) none).run Tryd.prog W = .ok (.slice (some ⟨B, l, none⟩) (h - l) (24 - l)) W := by
  subst e1 e2
  rw [run_sliceAt_array_lh W _ _ und24 .i64 .i64 _ _ (by omega) (by omega) (by rw [len24]; omega), elem24, size8', len24]
  simp only [Result.andThen_ok, slicedAt, Int.toNat_natCast]
  rw [if_neg (by omega), Nat.mul_one]
  unfold Addr.add
  split
  · rename_i h0; subst h0; rfl
  · simp

theorem own_new' (w : World) (t : TypeId) (xs : List UInt8) (n base : Nat) (hn : xs.length = n) (hb : base ≤ w.heap.size) (hm : n ≤ 281474976710656) (cs : Array Value) (hcs : cs = (cb xs).toArray) : (w.alloc (.cells cs t)).ownsRow base t 1 (.slice (some ⟨w.heap.size, 0, none⟩) n n) xs.length (cb xs) := by
  subst hcs
  exact block_own (heap_alloc_new w _) hb hn hm
theorem own_newAt' {w : World} {t : TypeId} (xs : List UInt8) {n base k : Nat} {cs : Array Value} (hk : w.heap.size = k) (hn : xs.length = n) (hb : base ≤ k) (hm : n ≤ 281474976710656) (hcs : cs = (cb xs).toArray) : (w.alloc (.cells cs t)).ownsRow base t 1 (.slice (some ⟨k, 0, none⟩) n n) xs.length (cb xs) := by
  subst hk
  exact own_new' w t xs n base hn hb hm cs hcs

set_option maxRecDepth 100000 in
set_option maxHeartbeats 2000000 in
theorem fmtInt_small (n : Nat) (h : n < 100) (w : World) :
    Calls Tryd.prog 80 #[.int .i64 (n : Int), .int .i64 10] w fun e w' => e = .returned (.string ⟨(dec n).toArray⟩) ∧ Below w.heap.size w w' := by
  have t1 : decide ((0 : Int) ≤ (n : Int)) = true := by simp
  have t2 : decide ((n : Int) < 100) = true := by simp; omega
  go_enter Tryd.func80, Tryd.ntmps80
  go_wp2_with fail
  refine (ismall_any n h _).mono ?_
  rintro e w1 ⟨rfl, rfl⟩
  go_wp2
  go_ret
  exact ⟨rfl, Below.refl _ _⟩

set_option maxRecDepth 100000 in
set_option maxHeartbeats 2000000 in
theorem fmtInt_big (n : Nat) (h1 : 100 ≤ n) (h : n < 256) (w : World) (hp : P10 w) :
    Calls Tryd.prog 80 #[.int .i64 (n : Int), .int .i64 10] w fun e w' => e = .returned (.string ⟨(dec n).toArray⟩) ∧ Below w.heap.size w w' := by
  have t1 : decide ((0 : Int) ≤ (n : Int)) = true := by simp
  have t2 : decide ((n : Int) < 100) = false := by simp; omega
  have t3 : decide ((n : Int) < 0) = false := by simp
  have sl := slice24 w.heap.size 1 4 (by decide) (by decide) (by decide) 1 4 rfl rfl
  go_enter Tryd.func80, Tryd.ntmps80
  go_wp2_with fail
  obtain ⟨W, hW⟩ : ∃ W : World, W = w.alloc (.cells #[.int .u8 0, .int .u8 0, .int .u8 0, .int .u8 0, .int .u8 0, .int .u8 0, .int .u8 0, .int .u8 0, .int .u8 0, .int .u8 0, .int .u8 0, .int .u8 0, .int .u8 0, .int .u8 0, .int .u8 0, .int .u8 0, .int .u8 0, .int .u8 0, .int .u8 0, .int .u8 0, .int .u8 0, .int .u8 0, .int .u8 0, .int .u8 0] 102) := ⟨_, rfl⟩
  have hO : W.ownsRow w.heap.size 102 1 (.slice (some ⟨w.heap.size, 0, none⟩) 24 24) (List.replicate 24 (0 : UInt8)).length (cb (List.replicate 24 0)) := by
    rw [hW]; exact own_newAt' (List.replicate 24 0) rfl rfl (by omega) (by decide) rfl
  have hb : Below w.heap.size w W := by rw [hW]; exact (Below.refl _ _).alloc (Nat.le_refl _) _
  rw [← hW]
  clear hW
  refine (numDigits_any n h1 h _ (hp.below hb)).mono ?_
  rintro e w1 ⟨rfl, rfl⟩
  go_wp2_with fail
  refine (fmt10_any n h1 h _ w.heap.size w.heap.size _ _ rfl hO (Nat.le_refl _)).mono ?_
  rintro e w2 ⟨rfl, hO2, hb2⟩
  have HD := Lib.hid (show dec n = [dg (n / 100), dg (n / 10 % 10), dg (n % 10)] by unfold dec; rw [if_pos h1])
  have hr : Rd w2 (some ⟨w.heap.size, 1, none⟩) [dg (n / 100), dg (n / 10 % 10), dg (n % 10)] := by
    have e1 : (((List.replicate 24 (0 : UInt8)).set 3 (dg (n % 10))).set 2 (dg (n / 10 % 10))).set 1 (dg (n / 100)) = 0 :: dg (n / 100) :: dg (n / 10 % 10) :: dg (n % 10) :: List.replicate 20 0 := rfl
    rw [e1] at hO2
    have c1 := own_cell (xs := 0 :: dg (n / 100) :: dg (n / 10 % 10) :: dg (n % 10) :: List.replicate 20 0) hO2 (j := 1) (by simp) rfl
    have c2 := own_cell (xs := 0 :: dg (n / 100) :: dg (n / 10 % 10) :: dg (n % 10) :: List.replicate 20 0) hO2 (j := 2) (by simp) rfl
    have c3 := own_cell (xs := 0 :: dg (n / 100) :: dg (n / 10 % 10) :: dg (n % 10) :: List.replicate 20 0) hO2 (j := 3) (by simp) rfl
    intro _
    refine ⟨w.heap.size, 1, rfl, cell_lt' c1, fun j hj => ?_⟩
    match j, hj with
    | 0, _ => exact c1
    | 1, _ => exact c2
    | 2, _ => exact c3
  have hst := run_str (P := Tryd.prog) 22 9 5 Tryd.underlying22 Tryd.underlying5 Tryd.underlying9 23 (n := 3) rfl hr
  clear hO2 hO hr
  generalize [dg (n / 100), dg (n / 10 % 10), dg (n % 10)] = D at hst HD
  go_wp2
  go_ret
  rw [HD.out]
  exact ⟨rfl, hb.trans hb2⟩
theorem itoa_any (n : Nat) (h : n < 256) (w : World) (hp : P10 w) :
    Calls Tryd.prog 52 #[.int .i64 (n : Int)] w fun e w' => e = .returned (.string ⟨(dec n).toArray⟩) ∧ Below w.heap.size w w' := by
  have hf : Calls Tryd.prog 80 #[.int .i64 (n : Int), .int .i64 10] w fun e w' => e = .returned (.string ⟨(dec n).toArray⟩) ∧ Below w.heap.size w w' := by
    by_cases h1 : n < 100
    · exact fmtInt_small n h1 w
    · exact fmtInt_big n (by omega) h w hp
  have HF := Lib.hid hf
  clear hf
  go_enter Tryd.func52, Tryd.ntmps52
  go_wp2_with fail
  refine HF.out.mono ?_
  rintro e w1 ⟨rfl, hb⟩
  go_wp2
  go_ret
  exact ⟨rfl, hb⟩
end Go.Proofs.YtjepkkfpgmgnjaaDoor
