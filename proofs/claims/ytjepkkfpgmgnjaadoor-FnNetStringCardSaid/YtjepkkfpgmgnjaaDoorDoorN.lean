/-
  What the row's list of package-level variables gives the walk of FnNetString: net/netip's three sentinels (ZF) and a number of internal/strconv.uint64pow10 (P10). No condition.
-/
import Derived.Test.YtjepkkfpgmgnjaaDoorDoorZ
import Derived.Test.YtjepkkfpgmgnjaaDoorItoa
namespace Go.Proofs.YtjepkkfpgmgnjaaDoor
open Go.ChangeShapes Go.WideShapes Go.ChangeAt Go.RowKit
set_option linter.unusedVariables false

theorem gP10 : Tryd.prog.globalNamed "internal/strconv.uint64pow10" = some 5 := by kernel_rfl
theorem gP10Type : (Tryd.prog.globals[5]?).map (·.type) = some 115 := by kernel_rfl
theorem uP10 : Tryd.prog.underlying 115 = some (.array 20 53) := by kernel_rfl
theorem cU64 : Tryd.prog.cellsOf 53 = 1 := by kernel_rfl
theorem cP10 : Tryd.prog.cellsOf 115 = 20 := by kernel_rfl

theorem p10_in {W : World} {l : List (String × DataW Unit)} (h : laidMet Tryd.prog l W) (m : ("internal/strconv.uint64pow10", Rows.laid_internal_strconv_uint64pow10) ∈ l) : P10 W := by
  obtain ⟨ps, hlv, _, hfr⟩ := h
  obtain ⟨g, t, cs, fuel, p, hg, ht, hvar, hd, _⟩ := laid_in hlv m
  obtain rfl := Option.some.inj (gP10.symm.trans hg)
  obtain rfl := Option.some.inj (gP10Type.symm.trans ht)
  have hcs := Lib.cells_of_tab (zs := [1, 10, 100, 1000, 10000, 100000, 1000000, 10000000, 100000000, 1000000000, 10000000000, 100000000000, 1000000000000, 10000000000000, 100000000000000, 1000000000000000, 10000000000000000, 100000000000000000, 1000000000000000000, 10000000000000000000]) uP10 Tryd.underlying53 cU64 cP10 (show DataW.trod _ _ _ _ _ _ _ _ _ = some (Lib.tabData .u64 [1, 10, 100, 1000, 10000, 100000, 1000000, 10000000, 100000000, 1000000000, 10000000000, 100000000000, 1000000000000, 10000000000000, 100000000000000, 1000000000000000, 10000000000000000, 100000000000000000, 1000000000000000000, 10000000000000000000], p) from hd)
  have hv := World.var?_cell gP10 hvar 2
  have hc2 : cs[2]? = some (.int .u64 100) := by rw [← Array.getElem?_toList, hcs]; rfl
  rw [hc2] at hv
  exact ⟨hv, cell_lt hv⟩

theorem facts_n {W : World} (h : laidMet Tryd.prog [("math/bits.deBruijn32tab", Rows.laid_math_bits_deBruijn32tab), ("math/bits.deBruijn64tab", Rows.laid_math_bits_deBruijn64tab), ("internal/strconv.uint64pow10", Rows.laid_internal_strconv_uint64pow10), ("net/netip.z4", Rows.laid_net_netip_z4), ("net/netip.z6noz", Rows.laid_net_netip_z6noz), ("net/netip.z0", Rows.laid_net_netip_z0)] W) : P10 W ∧ ∃ p4 p6, ZF W p4 p6 :=
  ⟨p10_in h (by simp), zf_of h (by simp) (by simp) (by simp)⟩

/-- a world for the witness: the settled one, two blocks more, two variables leading to them, and the three tables -/
noncomputable def laidWorldN (os : Os) : World :=
  { World.holding Tryd.prog os ⟨#[.cells #[.bool false, .string ⟨#[]⟩] 108, .cells #[.bool true, .string ⟨#[]⟩] 108], #[], []⟩ with
    heap := (((((World.holding Tryd.prog os ⟨#[.cells #[.bool false, .string ⟨#[]⟩] 108, .cells #[.bool true, .string ⟨#[]⟩] 108], #[], []⟩).heap.modify 1 fun
      | .cells _ t frozen => .cells #[.pointer (some ⟨(World.settled Tryd.prog os).heap.size, 0, none⟩)] t frozen
      | o => o).modify 3 fun
      | .cells _ t frozen => .cells #[.pointer (some ⟨(World.settled Tryd.prog os).heap.size + 1, 0, none⟩)] t frozen
      | o => o).modify 6 fun
      | .cells _ t frozen => .cells #[.int .u8 0, .int .u8 1, .int .u8 28, .int .u8 2, .int .u8 29, .int .u8 14, .int .u8 24, .int .u8 3, .int .u8 30, .int .u8 22, .int .u8 20, .int .u8 15, .int .u8 25, .int .u8 17, .int .u8 4, .int .u8 8, .int .u8 31, .int .u8 27, .int .u8 13, .int .u8 23, .int .u8 21, .int .u8 19, .int .u8 16, .int .u8 7, .int .u8 26, .int .u8 12, .int .u8 18, .int .u8 6, .int .u8 11, .int .u8 5, .int .u8 10, .int .u8 9] t frozen
      | o => o).modify 7 fun
      | .cells _ t frozen => .cells #[.int .u8 0, .int .u8 1, .int .u8 56, .int .u8 2, .int .u8 57, .int .u8 49, .int .u8 28, .int .u8 3, .int .u8 61, .int .u8 58, .int .u8 42, .int .u8 50, .int .u8 38, .int .u8 29, .int .u8 17, .int .u8 4, .int .u8 62, .int .u8 47, .int .u8 59, .int .u8 36, .int .u8 45, .int .u8 43, .int .u8 51, .int .u8 22, .int .u8 53, .int .u8 39, .int .u8 33, .int .u8 30, .int .u8 24, .int .u8 18, .int .u8 12, .int .u8 5, .int .u8 63, .int .u8 55, .int .u8 48, .int .u8 27, .int .u8 60, .int .u8 41, .int .u8 37, .int .u8 16, .int .u8 46, .int .u8 35, .int .u8 44, .int .u8 21, .int .u8 52, .int .u8 32, .int .u8 23, .int .u8 11, .int .u8 54, .int .u8 26, .int .u8 40, .int .u8 15, .int .u8 34, .int .u8 20, .int .u8 31, .int .u8 10, .int .u8 25, .int .u8 14, .int .u8 19, .int .u8 9, .int .u8 13, .int .u8 8, .int .u8 7, .int .u8 6] t frozen
      | o => o).modify 5 fun
      | .cells _ t frozen => .cells #[.int .u64 1, .int .u64 10, .int .u64 100, .int .u64 1000, .int .u64 10000, .int .u64 100000, .int .u64 1000000, .int .u64 10000000, .int .u64 100000000, .int .u64 1000000000, .int .u64 10000000000, .int .u64 100000000000, .int .u64 1000000000000, .int .u64 10000000000000, .int .u64 100000000000000, .int .u64 1000000000000000, .int .u64 10000000000000000, .int .u64 100000000000000000, .int .u64 1000000000000000000, .int .u64 10000000000000000000] t frozen
      | o => o }
theorem laid_met_n (os : Os) (args : Array Value) : laidMet Tryd.prog [("math/bits.deBruijn32tab", Rows.laid_math_bits_deBruijn32tab), ("math/bits.deBruijn64tab", Rows.laid_math_bits_deBruijn64tab), ("internal/strconv.uint64pow10", Rows.laid_internal_strconv_uint64pow10), ("net/netip.z4", Rows.laid_net_netip_z4), ("net/netip.z6noz", Rows.laid_net_netip_z6noz), ("net/netip.z0", Rows.laid_net_netip_z0)] ((laidWorldN os).forCall (fun _ _ => 0) ⟨#[], args, []⟩).memory :=
  laidMet_of_run' 8 (by kernel_rfl) (by kernel_rfl)
end Go.Proofs.YtjepkkfpgmgnjaaDoor
