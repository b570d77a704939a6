/-
  Contract of spec.And: the bits that two rows of bytes have in common. Condition: the second is at least as long as the first; the length (2^47).
-/
import Derived.Test.YtkabdfmcflkkoaaDoorBase
namespace Go.Proofs.YtkabdfmcflkkoaaDoor
open Go.RowKit
set_option linter.unusedVariables false

/-- the bits that both have -/
def andL (xs ys : List UInt8) : List UInt8 := List.zipWith (fun x y => x &&& y) xs ys
theorem andL_length (xs ys : List UInt8) (h : xs.length ≤ ys.length) : (andL xs ys).length = xs.length := by simp [andL]; omega
theorem andL_get (xs ys : List UInt8) (k : Nat) (h1 : k < xs.length) (h2 : k < ys.length) {h3 : k < (andL xs ys).length} : (andL xs ys)[k] = xs[k] &&& ys[k] := by simp [andL]
theorem andL_step (xs ys : List UInt8) (k : Nat) (h1 : k < xs.length) (h2 : k < ys.length) : (andL xs ys).take (k + 1) = (andL xs ys).take k ++ [xs[k] &&& ys[k]] := by
  rw [List.take_succ_eq_append_getElem (show k < (andL xs ys).length by simp [andL]; omega), andL_get xs ys k h1 h2]
theorem and_u8 (x y : UInt8) : bits BinOp.and IntKind.u8 (x.toNat : Int) (y.toNat : Int) = ((x &&& y).toNat : Int) := by
  rw [u8_and_nat _ _ x.toNat_lt y.toNat_lt, UInt8.toNat_and]

/-- append of bytes at a step of a region that draws its order -/
theorem step_app {P : Program} {w : World} {ops : Array Oper} {o : Oper} {a : Act} {K : Act → World → Prop} {Q : Exit → Act → World → Prop} {E : Prop} (hgd : o.guard = none) (s x : Operand) (t : TypeId)
    (ho : o.op = .call { callee := .builtin .append, args := #[s, x], argTypes := #[t, t] })
    (base : Nat) (e : TypeId) (ht : P.underlying t = some (.slice e)) (hinfo : (P.info? e).map (fun i => (i.zero, i.size, i.bytes)) = some (some (.int .u8 0), 1, 1))
    (v : Value) (xs : List UInt8) (k : Nat) (hs : a.eval s = v) (hown : w.ownsRow base e 1 v xs.length (cb xs)) (A : Option Addr) (m c : Nat) (ys : List UInt8) (hx : a.eval x = .slice A m c) (hm : ys.length = m) (hr : Rd w A ys)
    (hk : xs.length + m = k) (hsz : k ≤ 140737488355328) (hbase : base ≤ w.heap.size)
    (h : ∀ A' c' w', w'.ownsRow base e 1 (.slice A' k c') (xs ++ ys).length (cb (xs ++ ys)) → w.grownBy w' v.ownBlock →
      K (a.put o.dst (.slice A' k c')) w') : if Region.wanted o (yielded ops a.tmps) = true then Oper.wp P o a w K Q else E := by
  have hw : Region.wanted o (yielded ops a.tmps) = true := by simp [Region.wanted, hgd]
  rw [if_pos hw]
  exact wp_app s x t ho base e ht hinfo v xs k hs hown A m c ys hx hm hr hk hsz hbase (fun A' c' w' h1 h2 _ => h A' c' w' h1 h2)

set_option maxHeartbeats 1000000 in
theorem specAnd_any (A B : Option Addr) (n m c d : Nat) (xs ys : List UInt8) (w : World) (hn : xs.length = n) (hm : ys.length = m) (hle : n ≤ m) (ha : Rd w A xs) (hb : Rd w B ys) (hs : n ≤ 140737488351232) :
    Calls Tryd.prog 12 #[.slice A n c, .slice B m d] w fun e w' => OwnBack 5 w (andL xs ys) e w' := by
  subst hn hm
  go_enter Tryd.func12, Tryd.ntmps12
  go_wp2
  go_loopw [9, 5] (fun i v wr => ∃ (k : Nat) (l : List UInt8) (A' : Option Addr) (c' : Nat), k ≤ xs.length ∧ i = .int .i64 k ∧ v = .slice A' l.length c' ∧ l.length ≤ k ∧ wr.ownsRow w.heap.size 5 1 (.slice A' l.length c') l.length (cb l) ∧ Below w.heap.size w wr ∧ Hid (l = (andL xs ys).take k)) (fun i _ _ => xs.length - (intOf i).toNat)
  case atStart => exact ⟨0, [], none, 0, Nat.zero_le _, rfl, rfl, Nat.le_refl _, World.ownsRow_nil _ _ _ _, Below.refl _ _, rfl⟩
  case round =>
    obtain ⟨k, l, A', c', hk, rfl, rfl, hl, ho, hbl, HL⟩ := hrel
    by_cases hlt : k < xs.length
    · have hlt2 : k < ys.length := by omega
      obtain ⟨b, off, rfl, _, hc⟩ := (ha.below hbl).at_ hlt
      obtain ⟨b2, off2, rfl, _, hc2⟩ := (hb.below hbl).at_ hlt2
      have h1 := hc k hlt
      have h2 := hc2 k hlt2
      clear hc hc2
      have HT := Lib.hid (andL_step xs ys k hlt hlt2)
      generalize xs[k] = x at h1 HT
      generalize ys[k] = y at h2 HT
      have hand := and_u8 x y
      have hbs := hbl.size
      go_wp2
      have hod : (wr.drew).ownsRow w.heap.size 5 1 (.slice A' l.length c') l.length (cb l) := ho.drew
      have hsz1 : l.length + 1 ≤ 140737488355328 := by omega
      have hbz : w.heap.size ≤ wr.heap.size + 1 := by omega
      go_region_law (refine step_app rfl (.tmp 12) (.tmp 22) 22 rfl w.heap.size 5 Tryd.underlying22 info8 (.slice A' l.length c') l (l.length + 1) rfl (hod.alloc _) _ 1 1 [x &&& y] rfl rfl (Rd.new _ _ _ _ rfl) rfl hsz1 (by simpa using hbz) ?_; intro A2 c2 w2 ho2 hg2)
      all_goals
        have hb2 : Below w.heap.size w w2 := (hbl.drew.alloc (by simp; omega) _).grown hg2 (by simp; omega) fun q hq => (ho.lt q hq).1
        clear hg2
        go_wp2
        go_roundw
        case rel =>
          refine ⟨k + 1, l ++ [x &&& y], A2, c2, by omega, by go_num, by simp, by simp; omega, ?_, hb2, ?_⟩
          · simpa using ho2
          · show l ++ [x &&& y] = _
            rw [HT.out, ← HL.out]
        case measure => simp [intOf]; omega
    · have HF := Lib.hid (show l = andL xs ys by rw [HL.out, List.take_of_length_le (by rw [andL_length xs ys hle]; omega)])
      go_wp2
      go_ret
      refine ⟨A', l.length, c', rfl, by rw [HF.out], ?_, hbl⟩
      rw [← HF.out]
      exact ho
end Go.Proofs.YtkabdfmcflkkoaaDoor
