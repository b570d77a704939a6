/-
  Contract of net.IPv4: the IPv4-mapped address of four bytes, in new memory. It reads the package-level variable net.v4InV6Prefix (V4).
-/
import Derived.Test.YtjepkkfpgmgnjaaDoorV4
import Derived.Test.YtjepkkfpgmgnjaaDoorBase
import Derived.Laws.CopyOwn
namespace Go.Proofs.YtjepkkfpgmgnjaaDoor
open Go.RowKit

theorem size8 : (Tryd.prog.info? 5).map (·.size) = some 1 := by kernel_rfl

set_option maxHeartbeats 400000 in
theorem ipv4_any (a b c d : UInt8) (w : World) (hv : V4 w) :
    Calls Tryd.prog 78 #[.int .u8 (a.toNat : Int), .int .u8 (b.toNat : Int), .int .u8 (c.toNat : Int), .int .u8 (d.toNat : Int)] w fun e w' =>
      e = .returned (.slice (some ⟨w.heap.size, 0, none⟩) 16 16) ∧ w'.ownsRow w.heap.size 5 1 (.slice (some ⟨w.heap.size, 0, none⟩) 16 16) (mp ++ [a, b, c, d]).length (cb (mp ++ [a, b, c, d])) ∧ Below w.heap.size w w' := by
  obtain ⟨vb, vo, vc, hcell, hvc, hlt, hrd⟩ := id hv
  go_enter Tryd.func78, Tryd.ntmps78
  go_wp2_with (refine wpList_mk8 rfl _ _ 46 rfl 5 Tryd.underlying46 info8 .i64 .i64 _ _ 16 rfl rfl rfl rfl (by decide) ?_)
  intro w1 hown hg
  have hb1 : Below w.heap.size w w1 := (Below.refl _ _).grown hg (Nat.le_refl _) (by simp)
  have hcell1 := (hb1.cell (p := ⟨0, 0, none⟩) hlt).trans hcell
  have hrd1 := hrd.below hb1
  have hblk := (own_block (xs := [0, 0, 0, 0, 0, 0, 0, 0, 0, 0, 0, 0, 0, 0, 0, 0]) hown rfl).1
  go_wp2_with (refine wpList_copy_splice rfl (.tmp 11) (.tmp 12) 46 22 rfl 5 Tryd.underlying46 size8 _ _ 16 16 12 vc rfl rfl w.heap.size 0 (cb [0, 0, 0, 0, 0, 0, 0, 0, 0, 0, 0, 0, 0, 0, 0, 0]) 5 hblk (cb mp) rfl (fun _ => ⟨rfl, _, rfl, rd_cells hrd1⟩) (by decide) (cb_one mp) w.heap.size w hb1 (Nat.le_refl _) ?_)
  intro w2 hblk2 hb2
  have hblk2' : w2.heap[w.heap.size]? = some (.cells (cb (mp ++ [0, 0, 0, 0])).toArray 5 (0, 0)) := hblk2.out
  have ho2 := block_own (base := w.heap.size) (n := 16) hblk2' (Nat.le_refl _) rfl (by decide)
  have c12 := own_cell ho2 (j := 12) (by decide) rfl
  have c13 := own_cell ho2 (j := 13) (by decide) rfl
  have c14 := own_cell ho2 (j := 14) (by decide) rfl
  have c15 := own_cell ho2 (j := 15) (by decide) rfl
  have f12 := own_frozen ho2 12 rfl
  have f13 := own_frozen ho2 13 rfl
  have f14 := own_frozen ho2 14 rfl
  have f15 := own_frozen ho2 15 rfl
  clear hblk2' hblk2 hblk
  go_wp2
  go_ret
  refine ⟨rfl, ?_, ?_⟩
  · exact own_store (own_store (own_store (own_store ho2 (j := 12) a rfl) (j := 13) b rfl) (j := 14) c rfl) (j := 15) d rfl
  · exact (((hb2.setCell (p := ⟨w.heap.size, 12, none⟩) (Nat.le_refl _) _).setCell (p := ⟨w.heap.size, 13, none⟩) (Nat.le_refl _) _).setCell (p := ⟨w.heap.size, 14, none⟩) (Nat.le_refl _) _).setCell (p := ⟨w.heap.size, 15, none⟩) (Nat.le_refl _) _
end Go.Proofs.YtjepkkfpgmgnjaaDoor
