/-
  Contract of internal/strconv.formatBase10 at a number of three digits. No condition.
-/
import Derived.Test.YtjepkkfpgmgnjaaDoorItoa
namespace Go.Proofs.YtjepkkfpgmgnjaaDoor
open Go.RowKit
set_option linter.unusedVariables false

theorem sm_hi' (p : Nat) (h : p < 100) : ((Lib.sm (p * 2)).toNat : Int) = ((dg (p / 10)).toNat : Int) := by
  have : ∀ p : Fin 100, ((Lib.sm (p.val * 2)).toNat : Int) = ((dg (p.val / 10)).toNat : Int) := by decide +kernel
  exact this ⟨p, h⟩
theorem sm_lo' (p : Nat) (h : p < 100) : ((Lib.sm (p * 2 + 1)).toNat : Int) = ((dg (p % 10)).toNat : Int) := by
  have : ∀ p : Fin 100, ((Lib.sm (p.val * 2 + 1)).toNat : Int) = ((dg (p.val % 10)).toNat : Int) := by decide +kernel
  exact this ⟨p, h⟩

set_option maxRecDepth 100000 in
set_option maxHeartbeats 2000000 in
theorem fmt10_any (n : Nat) (h1 : 100 ≤ n) (h : n < 256) (w : World) (base B : Nat) (t : TypeId) (xs : List UInt8) (hx : xs.length = 24) (ho : w.ownsRow base t 1 (.slice (some ⟨B, 0, none⟩) 24 24) xs.length (cb xs)) (hB : base ≤ B) :
    Calls Tryd.prog 92 #[.slice (some ⟨B, 1, none⟩) 3 23, .int .u64 (n : Int)] w fun e w' => e = .returned (.tuple #[]) ∧
      w'.ownsRow base t 1 (.slice (some ⟨B, 0, none⟩) 24 24) 24 (cb (((xs.set 3 (dg (n % 10))).set 2 (dg (n / 10 % 10))).set 1 (dg (n / 100)))) ∧ Below base w w' := by
  go_enter Tryd.func92, Tryd.ntmps92
  go_name_bytes C hC
  have hC' : C = Lib.smalls := hC.symm.trans (by kernel_rfl)
  have i1 := fun (w : World) => Lib.idx_smalls (P := Tryd.prog) 9 Tryd.underlying9 .u32 ((n : Int) % 100 * 2 + 1) (n % 100 * 2 + 1) (by omega) (by omega) w
  have i2 := fun (w : World) => Lib.idx_smalls (P := Tryd.prog) 9 Tryd.underlying9 .u32 ((n : Int) % 100 * 2) (n % 100 * 2) (by omega) (by omega) w
  rw [← hC', sm_lo' _ (by omega)] at i1
  rw [← hC', sm_hi' _ (by omega)] at i2
  clear hC hC'
  have c1 := own_cell ho (j := 1) (by omega) hx
  have c2 := own_cell ho (j := 2) (by omega) hx
  have c3 := own_cell ho (j := 3) (by omega) hx
  have f1 := own_frozen ho 1 hx
  have f2 := own_frozen ho 2 hx
  have f3 := own_frozen ho 3 hx
  have HX := Lib.hid hx
  generalize xs[1] = y1 at c1
  generalize xs[2] = y2 at c2
  generalize xs[3] = y3 at c3
  have HQ1 := Lib.hid (show dg (n % 100 % 10) = dg (n % 10) by congr 1; omega)
  have HQ2 := Lib.hid (show dg (n % 100 / 10) = dg (n / 10 % 10) by congr 1; omega)
  have HQ3 := Lib.hid (show ((dg (n / 100)).toNat : Int) = 48 + (n : Int) / 100 by rw [dg_dec _ (by omega)]; omega)
  generalize dg (n % 100 % 10) = q1 at i1 HQ1
  generalize dg (n % 100 / 10) = q2 at i2 HQ2
  clear hx
  go_wp2_with fail
  refine wp_loop_rounds 1 ?_
  rw [rounds_succ]
  go_wp2
  go_region
  all_goals
    go_wp2
    go_returns
    have R1 := own_store ho (j := 3) q1 HX.out
    have R2 := own_store R1 (j := 2) q2 (by simpa using HX.out)
    have R3 := own_store R2 (j := 1) (dg (n / 100)) (by simpa using HX.out)
    rw [HQ3.out] at R3
    refine ⟨rfl, ?_, ?_⟩
    · have e1 := HQ1.out
      have e2 := HQ2.out
      subst e1 e2
      simp only [List.length_set, HX.out] at R3
      exact R3
    · exact ((((Below.refl base w).setCell (p := ⟨B, 3, none⟩) hB _).setCell (p := ⟨B, 2, none⟩) hB _).drew).setCell (p := ⟨B, 1, none⟩) hB _
end Go.Proofs.YtjepkkfpgmgnjaaDoor
