/-
  What a row's list of package-level variables gives a walk: net/netip's three sentinels (ZF). No condition.
-/
import Derived.Test.YtjepkkfpgmgnjaaDoorRows
import Derived.Test.YtjepkkfpgmgnjaaDoorCards
import Derived.Test.YtjepkkfpgmgnjaaDoorTie
import Derived.Test.YtjepkkfpgmgnjaaDoorFrame
import Derived.Test.YtjepkkfpgmgnjaaDoorZs
import Derived.Deep.DeepHandedRow
import Derived.Deep.DeepWitnessRowRef
import Derived.Lib.LaidTab
import Derived.Lay
namespace Go.Proofs.YtjepkkfpgmgnjaaDoor
open Go.ChangeShapes Go.WideShapes Go.ChangeAt Go.RowKit
set_option linter.unusedVariables false

theorem gZ0 : Tryd.prog.globalNamed "net/netip.z0" = some 4 := by kernel_rfl
theorem gZ0Type : (Tryd.prog.globals[4]?).map (·.type) = some 58 := by kernel_rfl
theorem gZ4 : Tryd.prog.globalNamed "net/netip.z4" = some 1 := by kernel_rfl
theorem gZ4Type : (Tryd.prog.globals[1]?).map (·.type) = some 58 := by kernel_rfl
theorem gZ6 : Tryd.prog.globalNamed "net/netip.z6noz" = some 3 := by kernel_rfl
theorem gZ6Type : (Tryd.prog.globals[3]?).map (·.type) = some 58 := by kernel_rfl
theorem cellsP : Tryd.prog.cellsOf 56 = 1 := by kernel_rfl
theorem cellsD : Tryd.prog.cellsOf 108 = 2 := by kernel_rfl
theorem cellsH : Tryd.prog.cellsOf 58 = 1 := by kernel_rfl
theorem cellsBo : Tryd.prog.cellsOf 4 = 1 := by kernel_rfl
theorem cellsSt : Tryd.prog.cellsOf 9 = 1 := by kernel_rfl

theorem len2 {α : Type} {l : List α} (h : l.length = 2) : ∃ a b, l = [a, b] := by
  match l, h with
  | [a, b], _ => exact ⟨a, b, rfl⟩

set_option maxRecDepth 100000 in
/-- a handle that leads to a detail without a zone -/
theorem handle_of {W : World} {fuel : Nat} {cs : List Value} {b : Bool} {p : List MemPlace} {enc : TypeId × Value → Unit} {spare : Nat → Bool} {held : Bool}
    (h : DataW.trod enc Tryd.prog W 0 spare held fuel 58 cs = some (.agg [.ptr (.agg [.lit (.bool b), .lit (.string [])])], p)) :
    ∃ a : Addr, cs = [.pointer (some a)] ∧ a.spot = none ∧ W.cell? ⟨a.block, a.off, none⟩ = some (.bool b) ∧ W.cell? ⟨a.block, a.off + 1, none⟩ = some (.string ⟨#[]⟩) ∧ MemPlace.cell a.block a.off ∈ p := by
  obtain ⟨ys, n, _, hx, hlen, hyl, hf⟩ := DataW.trod_struct Tryd.underlying58 h
  have h0 : DataW.trod enc Tryd.prog W 0 spare held n 56 ((cs.drop 0).take (Tryd.prog.cellsOf 56)) = ys[0]? := hf 0 _ rfl
  rw [cellsP] at h0
  rw [cellsH] at hlen
  obtain ⟨v, rfl⟩ := List.length_eq_one_iff.mp hlen
  obtain ⟨y, rfl⟩ := List.length_eq_one_iff.mp (show ys.length = 1 from hyl)
  simp only [List.map_cons, List.map_nil, List.flatMap_cons, List.flatMap_nil, List.append_nil, Prod.mk.injEq, DataW.agg.injEq, List.cons.injEq, and_true] at hx
  obtain ⟨hy, hp⟩ := hx
  have h1 : DataW.trod enc Tryd.prog W 0 spare held n 56 [v] = some y := by simpa using h0
  clear h h0 hf
  rcases DataW.trod_pointer Tryd.underlying56 h1 with ⟨_, h2⟩ | ⟨a, cs', u, m, _, hv, hyu, hcell, hu⟩
  · rw [h2] at hy; cases hy
  · rw [cellsD] at hyu hcell
    obtain ⟨_, hcl, hat⟩ := World.cells?_some hcell
    obtain ⟨zs, m2, _, hx2, hlen2, hzl, hf2⟩ := DataW.trod_struct Tryd.underlying108 hu
    have k0 : DataW.trod enc Tryd.prog W 0 spare held m2 4 ((cs'.drop 0).take (Tryd.prog.cellsOf 4)) = zs[0]? := hf2 0 _ rfl
    have k1 : DataW.trod enc Tryd.prog W 0 spare held m2 9 ((cs'.drop 1).take (Tryd.prog.cellsOf 9)) = zs[1]? := hf2 1 _ rfl
    rw [cellsBo] at k0
    rw [cellsSt] at k1
    obtain ⟨v0, v1, rfl⟩ := len2 hcl
    obtain ⟨z0, z1, rfl⟩ := len2 (show zs.length = 2 from hzl)
    have k0' : DataW.trod enc Tryd.prog W 0 spare held m2 4 [v0] = some z0 := by simpa using k0
    have k1' : DataW.trod enc Tryd.prog W 0 spare held m2 9 [v1] = some z1 := by simpa using k1
    clear k0 k1 hf2 hu h1
    obtain ⟨b', e0, d0⟩ := DataW.trod_bool Tryd.underlying4 k0'
    obtain ⟨s', e1, d1, _⟩ := DataW.trod_string Tryd.underlying9 k1'
    have hv0 := hat 0 (by decide)
    have hv1 := hat 1 (by decide)
    rw [hyu] at hy hp
    rw [hx2] at hy
    simp only [List.map_cons, List.map_nil, DataW.ptr.injEq, DataW.agg.injEq, List.cons.injEq, and_true] at hy
    rw [d0, d1] at hy
    obtain ⟨q0, q1⟩ := hy
    simp only [DataW.lit.injEq, Lit.bool.injEq, Lit.string.injEq] at q0 q1
    simp only [List.cons.injEq, and_true] at e0 e1 hv
    subst e0 e1 hv q0
    simp only [List.getElem?_cons_zero, List.getElem?_cons_succ] at hv0 hv1
    have hsp := World.cell?_spot hv0
    obtain ⟨B, O, S⟩ := a
    have hs : S = none := by simpa [Addr.add] using hsp
    subst hs
    have hs' : s' = ⟨#[]⟩ := by
      cases s' with
      | mk d => simp only at q1; congr 1; exact (Array.toList_eq_nil_iff.mp q1.symm)
    subst hs'
    refine ⟨⟨B, O, none⟩, rfl, rfl, by simpa [Addr.add] using hv0, by simpa [Addr.add] using hv1, ?_⟩
    rw [hp]
    exact List.mem_append_left _ (List.mem_map.mpr ⟨0, by decide, rfl⟩)

set_option maxRecDepth 100000 in
/-- a handle that is nil -/
theorem handle_nil {W : World} {fuel : Nat} {cs : List Value} {p : List MemPlace} {enc : TypeId × Value → Unit} {spare : Nat → Bool} {held : Bool}
    (h : DataW.trod enc Tryd.prog W 0 spare held fuel 58 cs = some (.agg [.nil], p)) : cs = [.pointer none] := by
  obtain ⟨ys, n, _, hx, hlen, hyl, hf⟩ := DataW.trod_struct Tryd.underlying58 h
  have h0 : DataW.trod enc Tryd.prog W 0 spare held n 56 ((cs.drop 0).take (Tryd.prog.cellsOf 56)) = ys[0]? := hf 0 _ rfl
  rw [cellsP] at h0
  rw [cellsH] at hlen
  obtain ⟨v, rfl⟩ := List.length_eq_one_iff.mp hlen
  obtain ⟨y, rfl⟩ := List.length_eq_one_iff.mp (show ys.length = 1 from hyl)
  simp only [List.map_cons, List.map_nil, List.flatMap_cons, List.flatMap_nil, List.append_nil, Prod.mk.injEq, DataW.agg.injEq, List.cons.injEq, and_true] at hx
  obtain ⟨hy, hp⟩ := hx
  have h1 : DataW.trod enc Tryd.prog W 0 spare held n 56 [v] = some y := by simpa using h0
  rcases DataW.trod_pointer Tryd.underlying56 h1 with ⟨h2, _⟩ | ⟨a, cs', u, m, _, hv, hyu, hcell, hu⟩
  · exact h2
  · rw [hyu] at hy; cases hy

/-- a variable on the list -/
theorem laid_in {P : Program} {W : World} {n : String} {d : DataW Unit} : ∀ {l : List (String × DataW Unit)} {ps : List MemPlace}, DataW.LaidVars P W l ps → (n, d) ∈ l →
    ∃ g t cs fuel p, P.globalNamed n = some g ∧ (P.globals[g]?).map (·.type) = some t ∧ W.var? P n = some cs ∧ DataW.trod (fun _ => ()) P W 0 (fun _ => true) false fuel t cs.toList = some (d, p) ∧ ∀ x ∈ p, x ∈ ps
  | [], _, _, hm => by cases hm
  | (n', d') :: r, ps, h, hm => by
    obtain ⟨g, t, cs, fuel, p, q, h1, h2, h3, h4, h5, h6⟩ := h
    rcases List.mem_cons.mp hm with e | e
    · injection e with e1 e2
      subst e1 e2
      exact ⟨g, t, cs, fuel, p, h1, h2, h3, h4, fun x hx => by rw [h6]; simp [hx]⟩
    · obtain ⟨g', t', cs', fuel', p', k1, k2, k3, k4, k5⟩ := laid_in h5 e
      exact ⟨g', t', cs', fuel', p', k1, k2, k3, k4, fun x hx => by rw [h6]; simp [k5 x hx]⟩

/-- a variable of the list that is a handle, in its cell -/
theorem handle_cell {W : World} {n : String} {g : Nat} {cs : Array Value} {v : Value} (hg : Tryd.prog.globalNamed n = some g) (hvar : W.var? Tryd.prog n = some cs) (hcs : cs.toList = [v]) : W.cell? ⟨g, 0, none⟩ = some v := by
  have hv0 := World.var?_cell hg hvar 0
  have hcs0 : cs[0]? = some v := by rw [← Array.getElem?_toList, hcs]; rfl
  rw [hcs0] at hv0
  exact hv0

theorem zf_of {W : World} {l : List (String × DataW Unit)} (h : laidMet Tryd.prog l W) (m0 : ("net/netip.z0", Rows.laid_net_netip_z0) ∈ l) (m4 : ("net/netip.z4", Rows.laid_net_netip_z4) ∈ l) (m6 : ("net/netip.z6noz", Rows.laid_net_netip_z6noz) ∈ l) : ∃ p4 p6, ZF W p4 p6 := by
  obtain ⟨ps, hl, _, hfr⟩ := h
  obtain ⟨g0, t0, cs0, f0, q0, a0, b0, c0, d0, _⟩ := laid_in hl m0
  obtain ⟨g4, t4, cs4, f4, q4, a4, b4, c4, d4, e4⟩ := laid_in hl m4
  obtain ⟨g6, t6, cs6, f6, q6, a6, b6, c6, d6, e6⟩ := laid_in hl m6
  obtain rfl := Option.some.inj (gZ0.symm.trans a0)
  obtain rfl := Option.some.inj (gZ4.symm.trans a4)
  obtain rfl := Option.some.inj (gZ6.symm.trans a6)
  obtain rfl := Option.some.inj (gZ0Type.symm.trans b0)
  obtain rfl := Option.some.inj (gZ4Type.symm.trans b4)
  obtain rfl := Option.some.inj (gZ6Type.symm.trans b6)
  have n0 := handle_nil d0
  obtain ⟨p4, n4, s4, x4, y4, r4⟩ := handle_of (b := false) d4
  obtain ⟨p6, n6, s6, x6, y6, r6⟩ := handle_of (b := true) d6
  have z0 := handle_cell gZ0 c0 n0
  have z4 := handle_cell gZ4 c4 n4
  have z6 := handle_cell gZ6 c6 n6
  obtain ⟨u4, v4, w4⟩ := (hfr _ _ (e4 _ r4)).1
  obtain ⟨u6, v6, w6⟩ := (hfr _ _ (e6 _ r6)).1
  refine ⟨p4, p6, ⟨z0, z4, z6⟩, ⟨cell_lt z0, cell_lt z4, cell_lt z6⟩, ?_, ⟨u4, v4, w4⟩, ⟨u6, v6, w6⟩, s4, s6, x4, y4, x6, y6⟩
  intro e
  rw [e, x6] at x4
  cases x4

theorem facts_z {W : World} (h : laidMet Tryd.prog [("net/netip.z4", Rows.laid_net_netip_z4), ("net/netip.z6noz", Rows.laid_net_netip_z6noz), ("net/netip.z0", Rows.laid_net_netip_z0)] W) : ∃ p4 p6, ZF W p4 p6 :=
  zf_of h (by simp) (by simp) (by simp)

/-- a world for the witness: the settled one, two blocks more, the two variables leading to them -/
noncomputable def laidWorld (os : Os) : World :=
  { World.holding Tryd.prog os ⟨#[.cells #[.bool false, .string ⟨#[]⟩] 108, .cells #[.bool true, .string ⟨#[]⟩] 108], #[], []⟩ with
    heap := ((World.holding Tryd.prog os ⟨#[.cells #[.bool false, .string ⟨#[]⟩] 108, .cells #[.bool true, .string ⟨#[]⟩] 108], #[], []⟩).heap.modify 1 fun
      | .cells _ t frozen => .cells #[.pointer (some ⟨(World.settled Tryd.prog os).heap.size, 0, none⟩)] t frozen
      | o => o).modify 3 fun
      | .cells _ t frozen => .cells #[.pointer (some ⟨(World.settled Tryd.prog os).heap.size + 1, 0, none⟩)] t frozen
      | o => o }
theorem laid_met_z (os : Os) (args : Array Value) : laidMet Tryd.prog [("net/netip.z4", Rows.laid_net_netip_z4), ("net/netip.z6noz", Rows.laid_net_netip_z6noz), ("net/netip.z0", Rows.laid_net_netip_z0)] ((laidWorld os).forCall (fun _ _ => 0) ⟨#[], args, []⟩).memory :=
  laidMet_of_run' 8 (by kernel_rfl) (by kernel_rfl)
end Go.Proofs.YtjepkkfpgmgnjaaDoor
