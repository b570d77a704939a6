/-
  Contracts of byteorder.BEUint64, netip.AddrFrom4, AddrFrom16, AddrFromSlice. No condition.
-/
import Derived.Test.YtjepkkfpgmgnjaaDoorNetipGet
namespace Go.Proofs.YtjepkkfpgmgnjaaDoor
open Go.RowKit
set_option linter.unusedVariables false

/-- bytes as a number, the highest one first -/
def be (l : List UInt8) : Nat := l.foldl (fun a x => a * 256 + x.toNat) 0

theorem or_add (k a b P : Nat) (hP : P = 2 ^ k) (ha : a < P) (h : a + b * P < 18446744073709551616) : bits BinOp.or IntKind.u64 (a : Int) ((b : Int) * (P : Int)) = ((a + b * P : Nat) : Int) := by
  have e1 : ((b : Int) * (P : Int)) = ((b * P : Nat) : Int) := by simp
  rw [e1, u64_or_nat a (b * P) (by omega) (by omega), Nat.or_comm, hP, Nat.mul_comm b, ← Nat.two_pow_add_eq_or_of_lt (by rw [← hP]; exact ha) b, Nat.add_comm]
theorem be_or (a0 a1 a2 a3 a4 a5 a6 a7 : Nat) (b0 : a0 < 256) (b1 : a1 < 256) (b2 : a2 < 256) (b3 : a3 < 256) (b4 : a4 < 256) (b5 : a5 < 256) (b6 : a6 < 256) (b7 : a7 < 256) :
    bits BinOp.or IntKind.u64 (bits BinOp.or IntKind.u64 (bits BinOp.or IntKind.u64 (bits BinOp.or IntKind.u64 (bits BinOp.or IntKind.u64 (bits BinOp.or IntKind.u64 (bits BinOp.or IntKind.u64 (a7 : Int) ((a6 : Int) * 256)) ((a5 : Int) * 65536)) ((a4 : Int) * 16777216)) ((a3 : Int) * 4294967296)) ((a2 : Int) * 1099511627776)) ((a1 : Int) * 281474976710656)) ((a0 : Int) * 72057594037927936)
      = ((a0 * 72057594037927936 + a1 * 281474976710656 + a2 * 1099511627776 + a3 * 4294967296 + a4 * 16777216 + a5 * 65536 + a6 * 256 + a7 : Nat) : Int) := by
  have h1 := or_add 8 a7 a6 256 rfl (by omega) (by omega)
  have h2 := or_add 16 (a7 + a6 * 256) a5 65536 rfl (by omega) (by omega)
  have h3 := or_add 24 (a7 + a6 * 256 + a5 * 65536) a4 16777216 rfl (by omega) (by omega)
  have h4 := or_add 32 (a7 + a6 * 256 + a5 * 65536 + a4 * 16777216) a3 4294967296 rfl (by omega) (by omega)
  have h5 := or_add 40 (a7 + a6 * 256 + a5 * 65536 + a4 * 16777216 + a3 * 4294967296) a2 1099511627776 rfl (by omega) (by omega)
  have h6 := or_add 48 (a7 + a6 * 256 + a5 * 65536 + a4 * 16777216 + a3 * 4294967296 + a2 * 1099511627776) a1 281474976710656 rfl (by omega) (by omega)
  have h7 := or_add 56 (a7 + a6 * 256 + a5 * 65536 + a4 * 16777216 + a3 * 4294967296 + a2 * 1099511627776 + a1 * 281474976710656) a0 72057594037927936 rfl (by omega) (by omega)
  simp only [Int.cast_ofNat_Int] at h1 h2 h3 h4 h5 h6 h7
  rw [h1, h2, h3, h4, h5, h6, h7]
  congr 1; omega
theorem ret_u64 {a b : Int} (h : a = b) : Ending.returned (.int .u64 a) = .returned (.int .u64 b) := by rw [h]

set_option maxRecDepth 100000 in
set_option maxHeartbeats 4000000 in
theorem beU64_any (A : Option Addr) (c : Nat) (xs : List UInt8) (w : World) (hn : xs.length = 8) (ha : Rd w A xs) :
    Calls Tryd.prog 81 #[.slice A 8 c] w fun e w' => e = .returned (.int .u64 (be xs : Int)) ∧ ∃ k, w' = w.drewN k := by
  obtain ⟨b, off, rfl, _, hcell⟩ := ha.at_ (k := 0) (by omega)
  match xs, hn with
  | [x0, x1, x2, x3, x4, x5, x6, x7], _ =>
    have c0 := hcell 0 (by simp)
    have c1 := hcell 1 (by simp)
    have c2 := hcell 2 (by simp)
    have c3 := hcell 3 (by simp)
    have c4 := hcell 4 (by simp)
    have c5 := hcell 5 (by simp)
    have c6 := hcell 6 (by simp)
    have c7 := hcell 7 (by simp)
    simp only [List.getElem_cons_zero, List.getElem_cons_succ, Nat.add_zero] at c0 c1 c2 c3 c4 c5 c6 c7
    have HE := Lib.hid (show be [x0, x1, x2, x3, x4, x5, x6, x7] = x0.toNat * 72057594037927936 + x1.toNat * 281474976710656 + x2.toNat * 1099511627776 + x3.toNat * 4294967296 + x4.toNat * 16777216 + x5.toNat * 65536 + x6.toNat * 256 + x7.toNat by simp only [be, List.foldl]; omega)
    have b0 : x0.toNat < 256 := x0.toNat_lt
    have b1 : x1.toNat < 256 := x1.toNat_lt
    have b2 : x2.toNat < 256 := x2.toNat_lt
    have b3 : x3.toNat < 256 := x3.toNat_lt
    have b4 : x4.toNat < 256 := x4.toNat_lt
    have b5 : x5.toNat < 256 := x5.toNat_lt
    have b6 : x6.toNat < 256 := x6.toNat_lt
    have b7 : x7.toNat < 256 := x7.toNat_lt
    clear hcell
    go_enter Tryd.func81, Tryd.ntmps81
    go_wp2
    go_quiet (fail)
    go_wp2
    go_ret
    refine ⟨ret_u64 ?_, nq, rfl⟩
    rw [HE.out]
    exact be_or _ _ _ _ _ _ _ _ b0 b1 b2 b3 b4 b5 b6 b7

set_option maxRecDepth 100000 in
set_option maxHeartbeats 4000000 in
/-- netip.AddrFrom16 -/
theorem from16_any (xs : List UInt8) (p4 p6 : Addr) (w : World) (hn : xs.length = 16) (hz : ZF w p4 p6) :
    Calls Tryd.prog 59 #[.agg (cb xs).toArray] w fun e w' => e = .returned (addrV (be (xs.take 8)) (be (xs.drop 8)) (some p6)) ∧ Below w.heap.size w w' := by
  have h8 := Lib.hid (show (xs.take 8).length = 8 by simp [hn])
  have h8' := Lib.hid (show (xs.drop 8).length = 8 by simp [hn])
  have hrd := fun (o o' : Obj) (ho : o = .cells (cb xs).toArray 85) => (show Rd ((w.alloc o).alloc o') (some ⟨w.heap.size, 0, none⟩) xs from by subst ho; exact (Rd.new w _ _ xs (by simp)).alloc _)
  have hz2 := fun (o o' : Obj) => (hz.alloc o).alloc o'
  have hsz : (cb xs).toArray.size = 16 := by simp [cb_length, hn]
  have HSZ := Lib.hid hsz
  unfold addrV
  clear hn hsz
  go_enter Tryd.func59, Tryd.ntmps59
  go_wp2
  have hrd1 := hrd _ (.cells #[.int .u64 0, .int .u64 0, .pointer none] 60) rfl
  have hz3 := hz2 (.cells (cb xs).toArray 85) (.cells #[.int .u64 0, .int .u64 0, .pointer none] 60)
  have h6 := hz3.1.2.2
  have l6 := hz.2.1.2.2
  have hle : w.heap.size ≤ w.heap.size + 1 := by omega
  go_region_held3 (fun (v : World) => v.cell? ⟨3, 0, none⟩ = some (.pointer (some p6))) (first | exact h6 | exact (((((Below.refl w.heap.size _).setCell (p := ⟨w.heap.size + 1, 0, none⟩) hle _).setCell (p := ⟨w.heap.size + 1, 1, none⟩) hle _).setCell (p := ⟨w.heap.size + 1, 2, none⟩) hle _).cell (p := ⟨3, 0, none⟩) l6).trans h6) ((first
    | (go_at_call_of 81 (Value.slice (some ⟨w.heap.size, 0, none⟩) 8 16); refine (beU64_any _ _ (xs.take 8) _ h8.out (by exact hrd1.cut0 8)).mono ?_; rintro e w1 ⟨rfl, k1, rfl⟩)
    | (go_at_call_of 81 (Value.slice (some ⟨w.heap.size, 8, none⟩) 8 8); refine (beU64_any _ _ (xs.drop 8) _ h8'.out (by exact hrd1.drop 8)).mono ?_; rintro e w2 ⟨rfl, k2, rfl⟩)))
  all_goals
    go_wp2
    go_returns
    refine ⟨rfl, ?_⟩
    go_grown
    exact below_drewN (by go_grown) _

/-- the lower half of an IPv4 address -/
def lo4 (xs : List UInt8) : Nat := 281470681743360 + be xs
theorem or4 (a b c d : Nat) (ha : a < 256) (hb : b < 256) (hc : c < 256) (hd : d < 256) :
    bits BinOp.or IntKind.u64 (bits BinOp.or IntKind.u64 (bits BinOp.or IntKind.u64 (bits BinOp.or IntKind.u64 281470681743360 ((a : Int) * 16777216)) ((b : Int) * 65536)) ((c : Int) * 256)) (d : Int) = ((281470681743360 + (a * 16777216 + b * 65536 + c * 256 + d) : Nat) : Int) := by
  have step : ∀ (x y k : Nat), y < 2 ^ k → x % 2 ^ k = 0 → x < 18446744073709551616 → y < 18446744073709551616 → bits BinOp.or IntKind.u64 (x : Int) (y : Int) = ((x + y : Nat) : Int) := by
    intro x y k hy hx h1 h2
    rw [u64_or_nat x y h1 h2]
    have e : x = 2 ^ k * (x / 2 ^ k) := by have := Nat.div_add_mod x (2 ^ k); omega
    rw [e, ← Nat.two_pow_add_eq_or_of_lt hy]
  have h1 := step 281470681743360 (a * 16777216) 32 (by omega) (by omega) (by omega) (by omega)
  have h2 := step (281470681743360 + a * 16777216) (b * 65536) 24 (by omega) (by omega) (by omega) (by omega)
  have h3 := step (281470681743360 + a * 16777216 + b * 65536) (c * 256) 16 (by omega) (by omega) (by omega) (by omega)
  have h4 := step (281470681743360 + a * 16777216 + b * 65536 + c * 256) d 8 (by omega) (by omega) (by omega) (by omega)
  simp only [Int.natCast_mul, Int.cast_ofNat_Int] at h1 h2 h3 h4
  rw [h1, h2, h3, h4]
  congr 1; omega

set_option maxRecDepth 100000 in
set_option maxHeartbeats 4000000 in
/-- netip.AddrFrom4 -/
theorem from4_any (xs : List UInt8) (p4 p6 : Addr) (w : World) (hn : xs.length = 4) (hz : ZF w p4 p6) :
    Calls Tryd.prog 58 #[.agg (cb xs).toArray] w fun e w' => e = .returned (addrV 0 (lo4 xs) (some p4)) ∧ Below w.heap.size w w' := by
  have hz2 := fun (o o' : Obj) => (hz.alloc o).alloc o'
  match xs, hn with
  | [x0, x1, x2, x3], _ =>
    have b0 : x0.toNat < 256 := x0.toNat_lt
    have b1 : x1.toNat < 256 := x1.toNat_lt
    have b2 : x2.toNat < 256 := x2.toNat_lt
    have b3 : x3.toNat < 256 := x3.toNat_lt
    have HE := Lib.hid (show lo4 [x0, x1, x2, x3] = 281470681743360 + (x0.toNat * 16777216 + x1.toNat * 65536 + x2.toNat * 256 + x3.toNat) by simp only [lo4, be, List.foldl]; omega)
    have ecb : (cb [x0, x1, x2, x3]).toArray = #[.int .u8 (x0.toNat : Int), .int .u8 (x1.toNat : Int), .int .u8 (x2.toNat : Int), .int .u8 (x3.toNat : Int)] := rfl
    rw [ecb]
    unfold addrV
    have h4 := fun (o o' : Obj) => (hz2 o o').1.2.1
    go_enter Tryd.func58, Tryd.ntmps58
    go_wp2
    go_returns
    rw [or4 _ _ _ _ b0 b1 b2 b3, HE.out]
    exact ⟨rfl, by go_grown⟩
end Go.Proofs.YtjepkkfpgmgnjaaDoor
