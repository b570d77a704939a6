/-
  What a row's list of package-level variables gives a walk: net/netip's three sentinels (ZF) and net.v4InV6Prefix (V4). No condition.
-/
import Derived.Test.YtjepkkfpgmgnjaaDoorDoorZ
import Derived.Test.YtjepkkfpgmgnjaaDoorV4
namespace Go.Proofs.YtjepkkfpgmgnjaaDoor
open Go.ChangeShapes Go.WideShapes Go.ChangeAt Go.RowKit
set_option linter.unusedVariables false

theorem gV4 : Tryd.prog.globalNamed "net.v4InV6Prefix" = some 0 := by kernel_rfl
theorem gV4Type : (Tryd.prog.globals[0]?).map (·.type) = some 22 := by kernel_rfl

theorem lits_eq {H : Type} {zs : List Int} {ns : List Int} (h : lits (H := H) .u8 zs = lits .u8 ns) : zs = ns := by
  have h1 : Function.Injective (fun n : Int => (DataW.lit (.int .u8 n) : DataW H)) := by
    intro a b e
    simpa using e
  exact (List.map_inj_right (fun _ _ e => h1 e)).mp h

theorem v4_in {W : World} {l : List (String × DataW Unit)} (h : laidMet Tryd.prog l W) (m : ("net.v4InV6Prefix", Rows.laid_net_v4InV6Prefix) ∈ l) : V4 W := by
  obtain ⟨ps, hlv, _, hfr⟩ := h
  obtain ⟨g, t, cs, fuel, p, hg, ht, hvar, hd, _⟩ := laid_in hlv m
  obtain rfl := Option.some.inj (gV4.symm.trans hg)
  obtain rfl := Option.some.inj (gV4Type.symm.trans ht)
  rcases open_ints Tryd.underlying22 Tryd.underlying5 (by kernel_rfl) hd with ⟨_, hx⟩ | ⟨a, len, cap, zs, hcs, _, hl, hm, hz, hx, hcell, hwz⟩
  · have := (Prod.mk.inj hx).1
    cases this
  · have hdat : Rows.laid_net_v4InV6Prefix = DataW.slice (lits .u8 (zs.take len)) (lits .u8 (zs.drop len)) := (Prod.mk.inj hx).1
    have e0 : (Rows.laid_net_v4InV6Prefix : DataW Unit) = DataW.slice (lits .u8 [0, 0, 0, 0, 0, 0, 0, 0, 0, 0, 255, 255]) (lits .u8 []) := rfl
    rw [e0] at hdat
    injection hdat with h1 h2
    have e1 := (lits_eq h1).symm
    have e2 : zs.drop len = [] := (lits_eq h2).symm
    have hz' : zs.length = cap := by simpa using hz
    have hlen : len = 12 := by
      have := congrArg List.length e1
      simp at this
      omega
    subst hlen
    have hzs : zs = [0, 0, 0, 0, 0, 0, 0, 0, 0, 0, 255, 255] := by
      have := List.take_append_drop 12 zs
      rw [e1, e2] at this
      simpa using this.symm
    subst hzs
    have hcap : cap = 12 := by simpa using hz'.symm
    subst hcap
    have hv0 := World.var?_cell gV4 hvar 0
    have hcs0 : cs[0]? = some (.slice (some a) 12 12) := by
      rw [← Array.getElem?_toList, hcs]; rfl
    rw [hcs0] at hv0
    have hc0 := hcell 0 (by decide)
    have hspot := World.cell?_spot hc0
    obtain ⟨b, off, spot⟩ := a
    have hs : spot = none := by simpa [Addr.add] using hspot
    subst hs
    refine ⟨b, off, 12, hv0, Nat.le_refl _, cell_lt hv0, fun _ => ⟨b, off, rfl, by simpa [Addr.add] using cell_lt hc0, fun i hi => ?_⟩⟩
    have hi' : i < 12 := hi
    have := hcell i hi'
    have e3 : (Addr.mk b off none).add i = ⟨b, off + i, none⟩ := by
      unfold Addr.add; split
      · rename_i h0; subst h0; rfl
      · rfl
    rw [e3] at this
    rw [this]
    have : ∀ j : Fin 12, ([0, 0, 0, 0, 0, 0, 0, 0, 0, 0, 255, 255] : List Int).getD j.val 0 = ((mp[j.val]'j.isLt).toNat : Int) := by decide
    exact congrArg (fun n => some (Value.int .u8 n)) (this ⟨i, hi'⟩)

theorem facts_zv {W : World} (h : laidMet Tryd.prog [("net/netip.z4", Rows.laid_net_netip_z4), ("net/netip.z6noz", Rows.laid_net_netip_z6noz), ("net.v4InV6Prefix", Rows.laid_net_v4InV6Prefix), ("net/netip.z0", Rows.laid_net_netip_z0)] W) : V4 W ∧ ∃ p4 p6, ZF W p4 p6 :=
  ⟨v4_in h (by simp), zf_of h (by simp) (by simp) (by simp)⟩

/-- a world for the witness: the settled one, three blocks more, the three variables leading to them -/
noncomputable def laidWorldV (os : Os) : World :=
  { World.holding Tryd.prog os ⟨#[.cells #[.bool false, .string ⟨#[]⟩] 108, .cells #[.bool true, .string ⟨#[]⟩] 108, .cells #[.int .u8 0, .int .u8 0, .int .u8 0, .int .u8 0, .int .u8 0, .int .u8 0, .int .u8 0, .int .u8 0, .int .u8 0, .int .u8 0, .int .u8 255, .int .u8 255] 5], #[], []⟩ with
    heap := (((World.holding Tryd.prog os ⟨#[.cells #[.bool false, .string ⟨#[]⟩] 108, .cells #[.bool true, .string ⟨#[]⟩] 108, .cells #[.int .u8 0, .int .u8 0, .int .u8 0, .int .u8 0, .int .u8 0, .int .u8 0, .int .u8 0, .int .u8 0, .int .u8 0, .int .u8 0, .int .u8 255, .int .u8 255] 5], #[], []⟩).heap.modify 1 fun
      | .cells _ t frozen => .cells #[.pointer (some ⟨(World.settled Tryd.prog os).heap.size, 0, none⟩)] t frozen
      | o => o).modify 3 fun
      | .cells _ t frozen => .cells #[.pointer (some ⟨(World.settled Tryd.prog os).heap.size + 1, 0, none⟩)] t frozen
      | o => o).modify 0 fun
      | .cells _ t frozen => .cells #[.slice (some ⟨(World.settled Tryd.prog os).heap.size + 2, 0, none⟩) 12 12] t frozen
      | o => o }
theorem laid_met_zv (os : Os) (args : Array Value) : laidMet Tryd.prog [("net/netip.z4", Rows.laid_net_netip_z4), ("net/netip.z6noz", Rows.laid_net_netip_z6noz), ("net.v4InV6Prefix", Rows.laid_net_v4InV6Prefix), ("net/netip.z0", Rows.laid_net_netip_z0)] ((laidWorldV os).forCall (fun _ _ => 0) ⟨#[], args, []⟩).memory :=
  laidMet_of_run' 8 (by kernel_rfl) (by kernel_rfl)
end Go.Proofs.YtjepkkfpgmgnjaaDoor
