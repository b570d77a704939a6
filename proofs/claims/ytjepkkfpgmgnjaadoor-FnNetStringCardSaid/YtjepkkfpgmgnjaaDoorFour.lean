/-
  Contract of spec.Four. No condition.
-/
import Derived.Test.YtjepkkfpgmgnjaaDoorDec
import Derived.Deep.RegionHeld3
namespace Go.Proofs.YtjepkkfpgmgnjaaDoor
open Go.RowKit
set_option linter.unusedVariables false

theorem ret_ba {a b : ByteArray} (h : a = b) : Ending.returned (.string a) = .returned (.string b) := by rw [h]
theorem four_ba (x0 x1 x2 x3 : UInt8) : (⟨(dec x0.toNat).toArray⟩ : ByteArray) ++ ⟨#[46]⟩ ++ ⟨(dec x1.toNat).toArray⟩ ++ ⟨#[46]⟩ ++ ⟨(dec x2.toNat).toArray⟩ ++ ⟨#[46]⟩ ++ ⟨(dec x3.toNat).toArray⟩ = ⟨(dot4 [x0, x1, x2, x3]).toArray⟩ := by
  apply ByteArray.ext
  simp [dot4]

set_option maxRecDepth 100000 in
set_option maxHeartbeats 1000000 in
theorem four_any (A : Option Addr) (c : Nat) (xs : List UInt8) (w : World) (hx : xs.length = 4) (ha : Rd w A xs) :
    Calls Tryd.prog 35 #[.slice A 4 c] w fun e w' => e = .returned (.string ⟨(dot4 xs).toArray⟩) ∧ Below w.heap.size w w' := by
  match xs, hx with
  | [x0, x1, x2, x3], _ =>
    obtain ⟨b, off, rfl, hbl, hc⟩ := ha.at_ (k := 0) (by simp)
    have c0 := hc 0 (by simp)
    have c1 := hc 1 (by simp)
    have c2 := hc 2 (by simp)
    have c3 := hc 3 (by simp)
    clear hc
    have l0 := dec_len x0.toNat
    have l1 := dec_len x1.toNat
    have l2 := dec_len x2.toNat
    have l3 := dec_len x3.toNat
    have f0 : ¬ 9223372036854775807 < (dec x0.toNat).length + 1 := by omega
    have f1 : ¬ 9223372036854775807 < (dec x0.toNat).length + 1 + (dec x1.toNat).length := by omega
    have f2 : ¬ 9223372036854775807 < (dec x0.toNat).length + 1 + (dec x1.toNat).length + 1 := by omega
    have f3 : ¬ 9223372036854775807 < (dec x0.toNat).length + 1 + (dec x1.toNat).length + 1 + (dec x2.toNat).length := by omega
    have f4 : ¬ 9223372036854775807 < (dec x0.toNat).length + 1 + (dec x1.toNat).length + 1 + (dec x2.toNat).length + 1 := by omega
    have f5 : ¬ 9223372036854775807 < (dec x0.toNat).length + 1 + (dec x1.toNat).length + 1 + (dec x2.toNat).length + 1 + (dec x3.toNat).length := by omega
    go_enter Tryd.func35, Tryd.ntmps35
    go_wp2_with fail
    go_region_held3 (fun (v : World) => v.cell? ⟨b, off, none⟩ = some (.int .u8 (x0.toNat : Int)) ∧ v.cell? ⟨b, off + 1, none⟩ = some (.int .u8 (x1.toNat : Int)) ∧ v.cell? ⟨b, off + 2, none⟩ = some (.int .u8 (x2.toNat : Int)) ∧ v.cell? ⟨b, off + 3, none⟩ = some (.int .u8 (x3.toNat : Int))) (first | exact ⟨c0, c1, c2, c3⟩ | exact ⟨(hb1.cell (p := ⟨b, _, none⟩) hbl).trans c0, (hb1.cell (p := ⟨b, _, none⟩) hbl).trans c1, (hb1.cell (p := ⟨b, _, none⟩) hbl).trans c2, (hb1.cell (p := ⟨b, _, none⟩) hbl).trans c3⟩ | exact ⟨(hb2.cell (p := ⟨b, _, none⟩) hbl).trans c0, (hb2.cell (p := ⟨b, _, none⟩) hbl).trans c1, (hb2.cell (p := ⟨b, _, none⟩) hbl).trans c2, (hb2.cell (p := ⟨b, _, none⟩) hbl).trans c3⟩ | exact ⟨(hb3.cell (p := ⟨b, _, none⟩) hbl).trans c0, (hb3.cell (p := ⟨b, _, none⟩) hbl).trans c1, (hb3.cell (p := ⟨b, _, none⟩) hbl).trans c2, (hb3.cell (p := ⟨b, _, none⟩) hbl).trans c3⟩ | exact ⟨(hb4.cell (p := ⟨b, _, none⟩) hbl).trans c0, (hb4.cell (p := ⟨b, _, none⟩) hbl).trans c1, (hb4.cell (p := ⟨b, _, none⟩) hbl).trans c2, (hb4.cell (p := ⟨b, _, none⟩) hbl).trans c3⟩) ((first
      | (go_at_call_of 53 (Value.int .u8 (x0.toNat : Int)); refine (decimal_any x0 _).mono ?_; rintro e w1 ⟨rfl, k1⟩; have hb1 : Below w.heap.size w w1 := below_undrew k1)
      | (go_at_call_of 53 (Value.int .u8 (x1.toNat : Int)); refine (decimal_any x1 _).mono ?_; rintro e w2 ⟨rfl, k2⟩; have hb2 : Below w.heap.size w w2 := hb1.trans (k2.mono hb1.size))
      | (go_at_call_of 53 (Value.int .u8 (x2.toNat : Int)); refine (decimal_any x2 _).mono ?_; rintro e w3 ⟨rfl, k3⟩; have hb3 : Below w.heap.size w w3 := hb2.trans (k3.mono hb2.size))
      | (go_at_call_of 53 (Value.int .u8 (x3.toNat : Int)); refine (decimal_any x3 _).mono ?_; rintro e w4 ⟨rfl, k4⟩; have hb4 : Below w.heap.size w w4 := hb3.trans (k4.mono hb3.size))))
    go_wp2
    go_ret
    exact ⟨ret_ba (four_ba _ _ _ _), hb4⟩
end Go.Proofs.YtjepkkfpgmgnjaaDoor
