/-
  Contracts of (netip.Addr).AppendTo, for an IPv4 address and for an IPv6 address that is not IPv4-mapped. No condition.
-/
import Derived.Test.YtjepkkfpgmgnjaaDoorTo6App
namespace Go.Proofs.YtjepkkfpgmgnjaaDoor
open Go.RowKit
set_option linter.unusedVariables false

set_option maxRecDepth 100000 in
set_option maxHeartbeats 2000000 in
theorem appendTo_4 (A : Option Addr) (nn c : Nat) (l xs : List UInt8) (p4 p6 : Addr) (w0 w : World) (hz : ZF w0 p4 p6) (hb0 : Below w0.heap.size w0 w) (hx : xs.length = 4) (hnn : l.length = nn) (ho : w.ownsRow w0.heap.size 5 1 (.slice A nn c) l.length (cb l)) (hl : nn ≤ 50000) :
    Calls Tryd.prog 83 #[addrV 0 (lo4 xs) (some p4), .slice A nn c] w fun e w' => AppTo w0.heap.size w (.slice A nn c) (l ++ dot4 xs) e w' := by
  have HN := Lib.hid hnn
  have HX := Lib.hid hx
  have hbase := hb0.size
  have zw := fun o => (hz.below hb0).alloc o
  have e0 := h_eql_none
  have e4 := eqSame
  have fr := appTo4_any A nn c w0.heap.size l xs (some p4)
  have hoB := fun o => ho.alloc o
  clear hnn hx
  generalize lo4 xs = L at fr ⊢
  unfold addrV at fr ⊢
  have FR := Lib.hid fr
  clear fr
  have g0 := fun o => (zw o).1.1
  have g4 := fun o => (zw o).1.2.1
  go_enter Tryd.func83, Tryd.ntmps83
  go_wp2_with fail
  refine (FR.out _ HX.out HN.out (hoB _) (by simp; omega) hl).mono ?_
  rintro e w1 ⟨A1, n1, c1, rfl, hn1, ho1, hm1⟩
  have HN1 := Lib.hid hn1
  clear hn1
  go_wp2
  go_ret
  exact ⟨A1, n1, c1, rfl, HN1.out, ho1, (Moved.of_below _ ((Below.refl _ _).alloc (Nat.le_refl _) _)).trans hm1⟩

set_option maxRecDepth 100000 in
set_option maxHeartbeats 2000000 in
theorem appendTo_6 (A : Option Addr) (nn c : Nat) (l : List UInt8) (hi lo : Nat) (p4 p6 : Addr) (w0 w : World) (hz : ZF w0 p4 p6) (hb0 : Below w0.heap.size w0 w) (hnn : l.length = nn) (ho : w.ownsRow w0.heap.size 5 1 (.slice A nn c) l.length (cb l)) (hl : nn ≤ 50000)
    (hh : hi < 18446744073709551616) (hlo : lo < 18446744073709551616) (hm : mapd hi lo = false) :
    Calls Tryd.prog 83 #[addrV hi lo (some p6), .slice A nn c] w fun e w' => AppTo w0.heap.size w (.slice A nn c) (l ++ long (wd hi lo)) e w' := by
  have HN := Lib.hid hnn
  have HM := Lib.hid hm
  have hbase := hb0.size
  have zw := fun o => (hz.below hb0).alloc o
  have e0 := h_eql_none
  have e4 := fun o => (zw o).eq64
  have fr := fun (w1 : World) (hb1 : Below w0.heap.size w0 w1) (ho1 : w1.ownsRow w0.heap.size 5 1 (.slice A nn c) l.length (cb l)) => appTo6_any A nn c l hi lo p4 p6 w0 w1 hz hb1 HN.out ho1 hl hh hlo
  have fi := fun (w1 : World) (hz1 : ZF w1 p4 p6) => is4in6_6 hi lo p4 p6 w1 hz1 hh hlo false HM.out
  clear hnn hm
  unfold addrV at fr fi ⊢
  have FR := Lib.hid fr
  have FI := Lib.hid fi
  clear fr fi
  have g0 := fun o => (zw o).1.1
  have g4 := fun o => (zw o).1.2.1
  go_enter Tryd.func83, Tryd.ntmps83
  go_wp2_with fail
  refine (FI.out _ (zw _)).mono ?_
  rintro e w1 ⟨rfl, hb1⟩
  have c0 := hb1.cell (p := ⟨w.heap.size, 0, none⟩) (by simp)
  have c1 := hb1.cell (p := ⟨w.heap.size, 1, none⟩) (by simp)
  have c2 := hb1.cell (p := ⟨w.heap.size, 2, none⟩) (by simp)
  simp at c0 c1 c2
  have bW : Below w.heap.size w w1 := ((Below.refl _ _).alloc (Nat.le_refl _) _).trans (hb1.mono (by simp))
  go_wp2_with fail
  refine (FR.out _ (hb0.trans (bW.mono hbase)) (own_kept ho bW)).mono ?_
  rintro e w2 ⟨A1, n1, c1', rfl, hn1, ho1, hm1⟩
  have HN1 := Lib.hid hn1
  clear hn1
  go_wp2
  go_ret
  exact ⟨A1, n1, c1', rfl, HN1.out, ho1, (Moved.of_below _ bW).trans hm1⟩
end Go.Proofs.YtjepkkfpgmgnjaaDoor
