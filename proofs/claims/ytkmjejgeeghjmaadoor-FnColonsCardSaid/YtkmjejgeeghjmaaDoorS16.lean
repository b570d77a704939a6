/-
  A part of an array of 16 bytes, and the builtin clear on it. No condition.
-/
import Derived.Test.YtkmjejgeeghjmaaDoorP6P
import Derived.Lib.SliceRun
namespace Go.Proofs.YtkmjejgeeghjmaaDoor
open Go.RowKit
set_option linter.unusedVariables false

theorem len16 : Tryd.prog.arrayLen 62 = 16 := by kernel_rfl
theorem elem16 : Tryd.prog.elem 62 = 5 := by kernel_rfl
theorem und16 : Tryd.prog.underlying 62 = some (.array (Tryd.prog.arrayLen 62) (Tryd.prog.elem 62)) := by kernel_rfl
theorem size8 (W : World) : (sizeOf 5).run Tryd.prog W = .ok 1 W := by
  obtain ⟨i, hi, hz, hz1, hz2⟩ := info_parts info8
  simp [sizeOf, typeInfo, hi, hz1]
theorem zero8 (W : World) : (zeroValue 5).run Tryd.prog W = .ok (.int .u8 0) W := by
  obtain ⟨i, hi, hz, hz1, hz2⟩ := info_parts info8
  simp [zeroValue, typeInfo, hi, hz]
theorem slice16 (B l h : Nat) (hl : l ≤ h) (h16 : h ≤ 16) (hl16 : l < 16) (Lo Hi : Int) (e1 : Lo = (l : Int)) (e2 : Hi = (h : Int)) (W : World) :
    (Instr.sliceAt 62 (.pointer (some ⟨B, 0, none⟩)) (some (.int .i64 Lo)) (some (.int .i64 Hi)) none).run Tryd.prog W = .ok (.slice (some ⟨B, l, none⟩) (h - l) (16 - l)) W := by
  subst e1 e2
  rw [run_sliceAt_array_lh W _ _ und16 .i64 .i64 _ _ (by omega) (by omega) (by rw [len16]; omega), elem16, size8, len16]
  simp only [Result.andThen_ok, slicedAt, Int.toNat_natCast]
  rw [if_neg (by omega), Nat.mul_one]
  unfold Addr.add
  split
  · rename_i h0; subst h0; rfl
  · simp
theorem setCells_putB (w : World) (B o : Nat) (l : List UInt8) : w.setCells B o (cb l) = putB w B o l := by
  induction l generalizing w o with
  | nil => rfl
  | cons x l ih => exact ih _ _
theorem clear16 {W : World} {base B o n c : Nat} {t : TypeId} {xs : List UInt8} (hown : W.ownsRow base t 1 (.slice (some ⟨B, 0, none⟩) 16 16) xs.length (cb xs)) (hx : xs.length = 16) (hn : 0 < n) (ho : o + n ≤ 16) (ty : TypeId) :
    (Builtin.clear_ #[22] ty #[.slice (some ⟨B, o, none⟩) n c]).run Tryd.prog W = .ok (.tuple #[]) (putB W B o (List.replicate n 0)) := by
  rw [Lib.run_clear_slice W 22 5 ty (.int .u8 0) Tryd.underlying22 zero8 rfl rfl B o n c hn (fun j hj => by rw [own_cell (j := o + j) hown (by omega) hx]; rfl) (fun j hj => own_frozen hown (o + j) hx), ← setCells_putB]
  congr 3
  simp [cb]
end Go.Proofs.YtkmjejgeeghjmaaDoor
