/-
  Contract of spec.And: the bits that two rows of bytes have in common. Condition: the second is at least as long as the first; the length (2^47).
-/
import Derived.Test.YtjepkkfpgmgnjaaDoorBase
namespace Go.Proofs.YtjepkkfpgmgnjaaDoor
open Go.RowKit
set_option linter.unusedVariables false

/-- the bits that both have -/
def andL (xs ys : List UInt8) : List UInt8 := List.zipWith (fun x y => x &&& y) xs ys
theorem andL_length (xs ys : List UInt8) (h : xs.length ≤ ys.length) : (andL xs ys).length = xs.length := by simp [andL]; omega
theorem andL_get (xs ys : List UInt8) (k : Nat) (h1 : k < xs.length) (h2 : k < ys.length) {h3 : k < (andL xs ys).length} : (andL xs ys)[k] = xs[k] &&& ys[k] := by simp [andL]
theorem andL_step (xs ys : List UInt8) (k : Nat) (h1 : k < xs.length) (h2 : k < ys.length) : (andL xs ys).take (k + 1) = (andL xs ys).take k ++ [xs[k] &&& ys[k]] := by
  rw [List.take_succ_eq_append_getElem (show k < (andL xs ys).length by simp [andL]; omega), andL_get xs ys k h1 h2]
theorem and_u8 (x y : UInt8) : bits BinOp.and IntKind.u8 (x.toNat : Int) (y.toNat : Int) = ((x &&& y).toNat : Int) := by
  rw [u8_and_nat _ _ x.toNat_lt y.toNat_lt, UInt8.toNat_and]

/-- append of bytes at a step of a region that draws its order -/
theorem step_app {P : Program} {w : World} {ops : Array Oper} {o : Oper} {a : Act} {K : Act → World → Prop} {Q : Exit → Act → World → Prop} {E : Prop} (hgd : o.guard = none) (s x : Operand) (t : TypeId)
    (ho : o.op = .call { callee := .builtin .append, args := #[s, x], argTypes := #[t, t] })
    (base : Nat) (e : TypeId) (ht : P.underlying t = some (.slice e)) (hinfo : (P.info? e).map (fun i => (i.zero, i.size, i.bytes)) = some (some (.int .u8 0), 1, 1))
    (v : Value) (xs : List UInt8) (k : Nat) (hs : a.eval s = v) (hown : w.ownsRow base e 1 v xs.length (cb xs)) (A : Option Addr) (m c : Nat) (ys : List UInt8) (hx : a.eval x = .slice A m c) (hm : ys.length = m) (hr : Rd w A ys)
    (hk : xs.length + m = k) (hsz : k ≤ 140737488355328) (hbase : base ≤ w.heap.size)
    (h : ∀ A' c' w', w'.ownsRow base e 1 (.slice A' k c') (xs ++ ys).length (cb (xs ++ ys)) → w.grownBy w' v.ownBlock →
      K (a.put o.dst (.slice A' k c')) w') : if Region.wanted o (yielded ops a.tmps) = true then Oper.wp P o a w K Q else E := by
  have hw : Region.wanted o (yielded ops a.tmps) = true := by simp [Region.wanted, hgd]
  rw [if_pos hw]
  exact wp_app s x t ho base e ht hinfo v xs k hs hown A m c ys hx hm hr hk hsz hbase (fun A' c' w' h1 h2 _ => h A' c' w' h1 h2)
end Go.Proofs.YtjepkkfpgmgnjaaDoor
