/-
  The three sentinels of net/netip (z0, z4, z6noz) in memory, addresses as values, and how handles are compared. No condition.
-/
import Derived.Test.YtjepkkfpgmgnjaaDoorKit
import Derived.Handy
import Derived.LaidEqlPtr
import Derived.Laws.StructEq
namespace Go.Proofs.YtjepkkfpgmgnjaaDoor
open Go.RowKit
set_option linter.unusedVariables false

/-- an address as a value: two halves, and its handle -/
def addrV (hi lo : Nat) (z : Option Addr) : Value := .agg #[.int .u64 (hi : Int), .int .u64 (lo : Int), .pointer z]

/-- the three variables: z0 is nil, z4 and z6noz lead to two places, each of a detail without a zone -/
def ZF (w : World) (p4 p6 : Addr) : Prop :=
  (w.cell? ⟨4, 0, none⟩ = some (.pointer none) ∧ w.cell? ⟨1, 0, none⟩ = some (.pointer (some p4)) ∧ w.cell? ⟨3, 0, none⟩ = some (.pointer (some p6))) ∧
  (4 < w.heap.size ∧ 1 < w.heap.size ∧ 3 < w.heap.size) ∧ p4 ≠ p6 ∧
  (∃ c t, w.heap[p4.block]? = some (.cells c t (0, 0))) ∧ (∃ c t, w.heap[p6.block]? = some (.cells c t (0, 0))) ∧
  p4.spot = none ∧ p6.spot = none ∧ w.cell? ⟨p4.block, p4.off, none⟩ = some (.bool false) ∧ w.cell? ⟨p4.block, p4.off + 1, none⟩ = some (.string ⟨#[]⟩) ∧ w.cell? ⟨p6.block, p6.off, none⟩ = some (.bool true) ∧ w.cell? ⟨p6.block, p6.off + 1, none⟩ = some (.string ⟨#[]⟩)
theorem heap_lt {w : World} {k : Nat} {o : Obj} (h : w.heap[k]? = some o) : k < w.heap.size := by
  rcases Nat.lt_or_ge k w.heap.size with h' | h'
  · exact h'
  · rw [Array.getElem?_eq_none h'] at h; cases h
theorem ZF.below {w w' : World} {p4 p6 : Addr} (h : ZF w p4 p6) (hb : Below w.heap.size w w') : ZF w' p4 p6 := by
  obtain ⟨⟨h0, h4, h6⟩, ⟨l0, l4, l6⟩, hne, ⟨c4, t4, k4⟩, ⟨c6, t6, k6⟩, s4, s6, a4, b4, a6, b6⟩ := h
  have hs := hb.size
  have m4 := heap_lt k4
  have m6 := heap_lt k6
  exact ⟨⟨(hb.cell (p := ⟨4, 0, none⟩) l0).trans h0, (hb.cell (p := ⟨1, 0, none⟩) l4).trans h4, (hb.cell (p := ⟨3, 0, none⟩) l6).trans h6⟩, ⟨by omega, by omega, by omega⟩, hne,
    ⟨c4, t4, (hb.block _ m4).trans k4⟩, ⟨c6, t6, (hb.block _ m6).trans k6⟩, s4, s6, (hb.cell (p := ⟨p4.block, p4.off, none⟩) m4).trans a4, (hb.cell (p := ⟨p4.block, p4.off + 1, none⟩) m4).trans b4, (hb.cell (p := ⟨p6.block, p6.off, none⟩) m6).trans a6, (hb.cell (p := ⟨p6.block, p6.off + 1, none⟩) m6).trans b6⟩
theorem ZF.drewN {w : World} {p4 p6 : Addr} (h : ZF w p4 p6) (n : Nat) : ZF (w.drewN n) p4 p6 := h
theorem ZF.alloc {w : World} {p4 p6 : Addr} (h : ZF w p4 p6) (o : Obj) : ZF (w.alloc o) p4 p6 := h.below ((Below.refl _ _).alloc (Nat.le_refl _) o)

section
theorem h_neq_none (p : Addr) (w : World) : (binOp .neq 58 (.agg #[.pointer (some p)]) (.agg #[.pointer none])).run Tryd.prog w = .ok (.bool true) w := by kernel_rfl
theorem h_eql_none (p : Addr) (w : World) : (binOp .eql 58 (.agg #[.pointer (some p)]) (.agg #[.pointer none])).run Tryd.prog w = .ok (.bool false) w := by kernel_rfl
theorem hInfo : (Tryd.prog.info? 108).map (fun i => i.size) = some 2 := by kernel_rfl
theorem p_same (d : Nat) (p : Addr) (w : World) : (Op.equalIn (d + 1) 56 (.pointer (some p)) (.pointer (some p))).run Tryd.prog w = .ok true w := by
  obtain ⟨j, hj, _hs⟩ : ∃ j, Tryd.prog.info? 108 = some j ∧ j.size = 2 := by
    have := hInfo
    cases h : Tryd.prog.info? 108 with
    | none => rw [h] at this; cases this
    | some j => rw [h] at this; exact ⟨j, rfl, by simpa using this⟩
  simp [Op.equalIn, run_underlying Tryd.underlying56, sizeOf, typeInfo, hj, run_sameAddr_same]
theorem p_other (d : Nat) {p q : Addr} (w : World) (hne : p ≠ q) {cp cq : Array Value} {tp tq : TypeId} (hp : w.heap[p.block]? = some (.cells cp tp (0, 0))) (hq : w.heap[q.block]? = some (.cells cq tq (0, 0))) :
    (Op.equalIn (d + 1) 56 (.pointer (some p)) (.pointer (some q))).run Tryd.prog w = .ok false w := by
  obtain ⟨j, hj, hs⟩ : ∃ j, Tryd.prog.info? 108 = some j ∧ j.size = 2 := by
    have := hInfo
    cases h : Tryd.prog.info? 108 with
    | none => rw [h] at this; cases this
    | some j => rw [h] at this; exact ⟨j, rfl, by simpa using this⟩
  simp [Op.equalIn, run_underlying Tryd.underlying56, sizeOf, typeInfo, hj, hs, run_sameAddr_other w hne hp hq]
theorem hFields : (Tryd.prog.fieldsOf 58).toList.map (fun f => (f.name, f.type, f.offset)) = [("value", 56, 0)] := by kernel_rfl
theorem h_cmp (p q : Addr) (w : World) (b : Bool) (h : ∀ d, (Op.equalIn (d + 1) 56 (.pointer (some p)) (.pointer (some q))).run Tryd.prog w = .ok b w) :
    (Op.equalIn (9998 + 1 + 1) 58 (.agg #[.pointer (some p)]) (.agg #[.pointer (some q)])).run Tryd.prog w = .ok b w := by
  rw [run_equalIn_struct w (9998 + 1) 58 _ _ (by kernel_rfl) (by kernel_rfl)]
  obtain ⟨f, hf, h1, h2, h3⟩ : ∃ f, (Tryd.prog.fieldsOf 58).toList = [f] ∧ f.name = "value" ∧ f.type = 56 ∧ f.offset = 0 := by
    have := hFields
    cases hl : (Tryd.prog.fieldsOf 58).toList with
    | nil => rw [hl] at this; cases this
    | cons f fs =>
      rw [hl] at this
      cases fs with
      | nil => simp at this; exact ⟨f, rfl, this.1, this.2.1, this.2.2⟩
      | cons g gs => simp at this
  rw [hf]
  have hpart : ∀ (x : Value) (w : World), (part 56 #[x] 0).run Tryd.prog w = .ok x w := fun x w => by kernel_rfl
  simp only [Op.eqFields, h1, h2, h3]
  simp [hpart, h 9998]
  cases b <;> rfl
theorem h_eql_of (p q : Addr) (w : World) (b : Bool) (h : ∀ d, (Op.equalIn (d + 1) 56 (.pointer (some p)) (.pointer (some q))).run Tryd.prog w = .ok b w) :
    (binOp .eql 58 (.agg #[.pointer (some p)]) (.agg #[.pointer (some q)])).run Tryd.prog w = .ok (.bool b) w := by
  rw [run_eql_struct, show 10000 = 9998 + 1 + 1 from rfl, h_cmp p q w b h]; rfl
theorem h_neq_of (p q : Addr) (w : World) (b : Bool) (h : ∀ d, (Op.equalIn (d + 1) 56 (.pointer (some p)) (.pointer (some q))).run Tryd.prog w = .ok b w) :
    (binOp .neq 58 (.agg #[.pointer (some p)]) (.agg #[.pointer (some q)])).run Tryd.prog w = .ok (.bool (!b)) w := by
  rw [run_neq_struct, show 10000 = 9998 + 1 + 1 from rfl, h_cmp p q w b h]; rfl
end

theorem ZF.eq64 {w : World} {p4 p6 : Addr} (h : ZF w p4 p6) : (Op.equalIn 9999 56 (.pointer (some p6)) (.pointer (some p4))).run Tryd.prog w = .ok false w := by
  obtain ⟨_, _, hne, ⟨c4, t4, k4⟩, ⟨c6, t6, k6⟩, _⟩ := h
  exact p_other 9998 w (Ne.symm hne) k6 k4
theorem ZF.eq46 {w : World} {p4 p6 : Addr} (h : ZF w p4 p6) : (Op.equalIn 9999 56 (.pointer (some p4)) (.pointer (some p6))).run Tryd.prog w = .ok false w := by
  obtain ⟨_, _, hne, ⟨c4, t4, k4⟩, ⟨c6, t6, k6⟩, _⟩ := h
  exact p_other 9998 w hne k4 k6
theorem eqSame (p : Addr) (w : World) : (Op.equalIn 9999 56 (.pointer (some p)) (.pointer (some p))).run Tryd.prog w = .ok true w := p_same 9998 p w

set_option maxRecDepth 100000 in
set_option maxHeartbeats 400000 in
theorem is6_6 (hi lo : Nat) (p4 p6 : Addr) (w : World) (hz : ZF w p4 p6) :
    Calls Tryd.prog 82 #[addrV hi lo (some p6)] w fun e w' => e = .returned (.bool true) ∧ Below w.heap.size w w' := by
  have e1 := fun o => (hz.alloc o).eq64
  obtain ⟨⟨h0, h4, h6⟩, ⟨l0, l4, l6⟩, _⟩ := hz
  unfold addrV
  have q0 := h_neq_none
  go_enter Tryd.func82, Tryd.ntmps82
  go_wp2
  go_ret
  exact ⟨rfl, (Below.refl _ _).alloc (Nat.le_refl _) _⟩

set_option maxRecDepth 100000 in
set_option maxHeartbeats 400000 in
theorem is6_4 (hi lo : Nat) (p4 p6 : Addr) (w : World) (hz : ZF w p4 p6) :
    Calls Tryd.prog 82 #[addrV hi lo (some p4)] w fun e w' => e = .returned (.bool false) ∧ Below w.heap.size w w' := by
  have e1 := eqSame
  obtain ⟨⟨h0, h4, h6⟩, ⟨l0, l4, l6⟩, _⟩ := hz
  unfold addrV
  have q0 := h_neq_none
  go_enter Tryd.func82, Tryd.ntmps82
  go_wp2
  go_ret
  exact ⟨rfl, (Below.refl _ _).alloc (Nat.le_refl _) _⟩

/-- is the address IPv4-mapped, by its halves? -/
def mapd (hi lo : Nat) : Bool := decide (hi = 0) && decide (lo / 4294967296 = 65535)
set_option maxRecDepth 100000 in
set_option maxHeartbeats 400000 in
theorem is4in6_6 (hi lo : Nat) (p4 p6 : Addr) (w : World) (hz : ZF w p4 p6) (hh : hi < 18446744073709551616) (hl : lo < 18446744073709551616) (r : Bool) (hr : mapd hi lo = r) :
    Calls Tryd.prog 73 #[addrV hi lo (some p6)] w fun e w' => e = .returned (.bool r) ∧ Below w.heap.size w w' := by
  have HR := Lib.hid hr
  clear hr
  by_cases h0 : hi = 0
  · subst h0
    by_cases h1 : lo / 4294967296 = 65535
    · have t1 : ((lo : Int) / 4294967296 == 65535) = true := by simp; omega
      have HT := Lib.hid (show mapd 0 lo = true by simp [mapd, h1])
      clear h1
      unfold addrV
      go_enter Tryd.func73, Tryd.ntmps73
      go_wp2_with fail
      refine (is6_6 0 lo p4 p6 _ (hz.alloc _)).mono ?_
      rintro e w1 ⟨rfl, hb1⟩
      have c0 := (hb1.cell (p := ⟨w.heap.size, 0, none⟩) (by simp))
      have c1 := (hb1.cell (p := ⟨w.heap.size, 1, none⟩) (by simp))
      simp at c0 c1
      go_wp2
      go_ret
      exact ⟨ret_bool (by rw [← HR.out, HT.out]), ((Below.refl _ _).alloc (Nat.le_refl _) _).trans (hb1.mono (by simp))⟩
    · have t1 : ((lo : Int) / 4294967296 == 65535) = false := by simp; omega
      have HT := Lib.hid (show mapd 0 lo = false by simp [mapd, h1])
      clear h1
      unfold addrV
      go_enter Tryd.func73, Tryd.ntmps73
      go_wp2_with fail
      refine (is6_6 0 lo p4 p6 _ (hz.alloc _)).mono ?_
      rintro e w1 ⟨rfl, hb1⟩
      have c0 := (hb1.cell (p := ⟨w.heap.size, 0, none⟩) (by simp))
      have c1 := (hb1.cell (p := ⟨w.heap.size, 1, none⟩) (by simp))
      simp at c0 c1
      go_wp2
      go_ret
      exact ⟨ret_bool (by rw [← HR.out, HT.out]), ((Below.refl _ _).alloc (Nat.le_refl _) _).trans (hb1.mono (by simp))⟩
  · have t0 : ((hi : Int) == 0) = false := by simp; omega
    have HT := Lib.hid (show mapd hi lo = false by simp [mapd, h0])
    clear h0
    unfold addrV
    go_enter Tryd.func73, Tryd.ntmps73
    go_wp2_with fail
    refine (is6_6 hi lo p4 p6 _ (hz.alloc _)).mono ?_
    rintro e w1 ⟨rfl, hb1⟩
    have c0 := (hb1.cell (p := ⟨w.heap.size, 0, none⟩) (by simp))
    have c1 := (hb1.cell (p := ⟨w.heap.size, 1, none⟩) (by simp))
    simp at c0 c1
    go_wp2
    go_ret
    exact ⟨ret_bool (by rw [← HR.out, HT.out]), ((Below.refl _ _).alloc (Nat.le_refl _) _).trans (hb1.mono (by simp))⟩
end Go.Proofs.YtjepkkfpgmgnjaaDoor
