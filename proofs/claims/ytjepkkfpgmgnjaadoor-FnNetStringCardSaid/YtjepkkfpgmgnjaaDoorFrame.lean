/-
  How an argument that came in is opened for a walk: a slice of bytes reads as a list of bytes at most 2^47 - 4096 long. No condition.
-/
import Derived.Test.YtjepkkfpgmgnjaaDoorKit
import Derived.ProofKit
import Derived.OpenShut
import Derived.ShutString
import Derived.ChangeOld
import Derived.SizedLaws
namespace Go.Proofs.YtjepkkfpgmgnjaaDoor
open Go.ChangeShapes Go.WideShapes Go.ChangeAt Go.RowKit
open Go.ChangeMaps (open_string shut_string)

theorem own : ownKnob Tryd.prog.godebug = none := by kernel_rfl
theorem laidOut : laidOutB Tryd.prog = true := by kernel_rfl
theorem bytes8 : Tryd.prog.bytesOf 5 = 1 := by kernel_rfl

theorem cell_lt {w : World} {a : Addr} {v : Value} (h : w.cell? a = some v) : a.block < w.heap.size := by
  rcases Nat.lt_or_ge a.block w.heap.size with h' | h'
  · exact h'
  · simp [World.cell?, Array.getElem?_eq_none h'] at h

set_option maxRecDepth 100000 in
/-- a slice of bytes that came in -/
theorem slice_in {H : Type} {enc : TypeId × Value → H} {W : World} {b0 : Nat} {v : Value} {d : DataW H} {p : List MemPlace} {ts : List TypeId} {ds : List (DataW H)} {j : Nat}
    (hv : Value.okWide Tryd.prog W .any b0 22 v) (h : DataW.Trod enc Tryd.prog W 0 (fun _ => true) true 22 v d p)
    (hsz : (DataW.weightsEach Tryd.prog ts ds).all (· ≤ reachBytes) = true) (ht : ts[j]? = some 22) (hd : ds[j]? = some d) :
    ∃ A n c xs, v = .slice A n c ∧ xs.length = n ∧ n ≤ c ∧ c ≤ 140737488351232 ∧ Rd W A xs ∧ (n = 0 ∨ ∃ elems spare, d = .slice elems spare ∧ elems.length = n) := by
  obtain ⟨A, n, c, rfl⟩ := okWide_slice Tryd.underlying22 hv
  obtain ⟨fuel, hf⟩ := h
  rcases open_ints Tryd.underlying22 Tryd.underlying5 (by kernel_rfl) hf with ⟨hcs, _⟩ | ⟨x, l, c', zs, hcs, _, hl, hm, hz, hx, hcell, hwz⟩
  · simp [Value.cells] at hcs
    obtain ⟨rfl, rfl, rfl⟩ := hcs
    exact ⟨none, 0, 0, [], rfl, rfl, Nat.le_refl _, by decide, Rd.nil _ _, .inl rfl⟩
  · simp [Value.cells] at hcs
    obtain ⟨rfl, rfl, rfl⟩ := hcs
    have hz' : zs.length = c := by simpa using hz
    have hd' : d = .slice (lits .u8 (zs.take n)) (lits .u8 (zs.drop n)) := (Prod.mk.inj hx).1
    have hb := sized_slice hsz ht (hd' ▸ hd) Tryd.underlying22
    rw [bytes8] at hb
    simp only [lits, List.length_map, List.length_take, List.length_drop, reachBytes] at hb
    have hbyte : ∀ i (hi : i < zs.length), zs.getD i 0 = (((UInt8.ofNat (zs.getD i 0).toNat).toNat : Nat) : Int) := by
      intro i hi
      have hw := hwz (zs.getD i 0) (by rw [List.getD_eq_getElem?_getD, List.getElem?_eq_getElem hi]; exact List.getElem_mem hi)
      have hb8 := bounds_u8 hw
      simp only [UInt8.toNat_ofNat']
      omega
    refine ⟨some x, n, c, (zs.take n).map fun z => UInt8.ofNat z.toNat, rfl, by simp; omega, hl, by omega, fun hne => ?_, .inr ⟨_, _, hd', by simp [lits]; omega⟩⟩
    have hpos : 0 < n := by
      rcases Nat.eq_zero_or_pos n with h0 | h0
      · subst h0; simp at hne
      · exact h0
    have hc0 := hcell 0 (by omega)
    have hspot := World.cell?_spot hc0
    obtain ⟨b, off, spot⟩ := x
    have hs : spot = none := by simpa [Addr.add] using hspot
    subst hs
    refine ⟨b, off, rfl, by simpa [Addr.add] using cell_lt hc0, fun i hi => ?_⟩
    have hi' : i < zs.length := by simp at hi; omega
    have := hcell i hi'
    rw [hbyte i hi'] at this
    have e1 : (Addr.mk b off none).add i = ⟨b, off + i, none⟩ := by
      unfold Addr.add; split
      · rename_i h0; subst h0; rfl
      · rfl
    rw [e1] at this
    rw [this]
    simp only [List.getElem_map, List.getElem_take, List.getD_eq_getElem?_getD, List.getElem?_eq_getElem hi', Option.getD_some]

end Go.Proofs.YtjepkkfpgmgnjaaDoor
