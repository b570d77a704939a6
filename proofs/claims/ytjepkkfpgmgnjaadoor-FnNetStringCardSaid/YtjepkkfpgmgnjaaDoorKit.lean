/-
  Small facts on slices of bytes in memory, used by every proof of this seat: a slice that reads as a list of bytes, kept over calls that change no old memory; a row of bytes of the call's own. No condition.
-/
import Derived.Test.YtjepkkfpgmgnjaaDoorProg
import Derived.WalkKit
import Derived.WalkSpells
import Derived.WalkLawsBesides
import Derived.Deep.QuietTactic
import Derived.BigQuiet
import Derived.Lib.Hide
import Derived.Deep.RegionWith
import Derived.Deep.RegionHeld3
import Derived.Deep.RegionLaw
import Derived.StillTailTactics
import Derived.Deep.LoopGhost
import Derived.Deep.DeepCutAuto
import Derived.Laws.OwnMore
import Derived.Laws.Rows
import Derived.Laws.IdiomStrings
import Derived.Laws.BytesArg
import Derived.Maps.AppendAt
import Derived.Deep.AppendLies
namespace Go.Proofs.YtjepkkfpgmgnjaaDoor
open Go.RowKit

/-- are two lists of bytes the same? (a name that the walk's simp leaves as it stands) -/
def eqb (xs ys : List UInt8) : Bool := decide (xs = ys)
theorem eqb_true {xs ys : List UInt8} (h : xs = ys) : eqb xs ys = true := by simp [eqb, h]
theorem eqb_false {xs ys : List UInt8} (h : xs ≠ ys) : eqb xs ys = false := by simp [eqb, h]
theorem eqb_comm (xs ys : List UInt8) : eqb xs ys = eqb ys xs := by simp [eqb, eq_comm]

theorem ba_app (a b : List UInt8) : (⟨a.toArray⟩ : ByteArray) ++ ⟨b.toArray⟩ = ⟨(a ++ b).toArray⟩ := by
  apply ByteArray.ext
  simp
theorem ba_cut (l : List UInt8) (a b : Nat) : ((⟨l.toArray⟩ : ByteArray).extract a b) = ⟨((l.take b).drop a).toArray⟩ := by
  apply ByteArray.ext
  simp [ByteArray.data_extract, List.drop_take]
theorem tup2 {v : Value} {b b' : Bool} (h : b = b') : Ending.returned (.tuple #[v, .bool b]) = .returned (.tuple #[v, .bool b']) := by rw [h]
theorem ret_bool {b b' : Bool} (h : b = b') : Ending.returned (.bool b) = .returned (.bool b') := by rw [h]
theorem u8eq {x y : UInt8} (h : x = y) : ((x.toNat : Int) == (y.toNat : Int)) = true := by simp [h]
theorem u8ne {x y : UInt8} (h : x ≠ y) : ((x.toNat : Int) == (y.toNat : Int)) = false := by
  simp only [beq_eq_false_iff_ne, ne_eq, Int.ofNat_inj]
  exact fun e => h (UInt8.toNat_inj.mp e)
theorem u8eqn {x y : UInt8} (h : x = y) : ((x.toNat : Int) != (y.toNat : Int)) = false := by simp [h]
theorem u8nen {x y : UInt8} (h : x ≠ y) : ((x.toNat : Int) != (y.toNat : Int)) = true := by
  simp only [bne_iff_ne, ne_eq, Int.ofNat_inj]
  exact fun e => h (UInt8.toNat_inj.mp e)

/-- the cells of a list of bytes -/
def cb (xs : List UInt8) : List Value := xs.map fun x => .int .u8 (x.toNat : Int)

theorem cb_length (xs : List UInt8) : (cb xs).length = xs.length := by simp [cb]
theorem cb_append (xs ys : List UInt8) : cb (xs ++ ys) = cb xs ++ cb ys := by simp [cb]
theorem cb_get (xs : List UInt8) (j : Nat) (h : j < xs.length) : (cb xs)[j]? = some (.int .u8 (xs[j].toNat : Int)) := by
  simp [cb, h]
theorem cb_one (xs : List UInt8) : ∀ u ∈ cb xs, u.oneCell' = true := by
  intro u hu
  simp only [cb, List.mem_map] at hu
  obtain ⟨x, _, rfl⟩ := hu
  rfl

/-- the slice that begins at A reads as xs -/
def Rd (w : World) (A : Option Addr) (xs : List UInt8) : Prop :=
  xs ≠ [] → ∃ b off, A = some ⟨b, off, none⟩ ∧ b < w.heap.size ∧ ∀ j (h : j < xs.length), w.cell? ⟨b, off + j, none⟩ = some (.int .u8 (xs[j].toNat : Int))

theorem Rd.nil (w : World) (A : Option Addr) : Rd w A [] := fun h => absurd rfl h
theorem Rd.at_ {w : World} {A : Option Addr} {xs : List UInt8} (h : Rd w A xs) {k : Nat} (hk : k < xs.length) :
    ∃ b off, A = some ⟨b, off, none⟩ ∧ b < w.heap.size ∧ ∀ j (h : j < xs.length), w.cell? ⟨b, off + j, none⟩ = some (.int .u8 (xs[j].toNat : Int)) :=
  h (by intro e; rw [e] at hk; simp at hk)
theorem Rd.below {w w' : World} {A : Option Addr} {xs : List UInt8} (h : Rd w A xs) (hb : Below w.heap.size w w') : Rd w' A xs := by
  intro hne
  obtain ⟨b, off, e, hlt, hc⟩ := h hne
  exact ⟨b, off, e, Nat.lt_of_lt_of_le hlt hb.size, fun j hj => (hb.cell (p := ⟨b, off + j, none⟩) hlt).trans (hc j hj)⟩
/-- the same where draws stand between: the heap alone counts -/
theorem Rd.belowD {w v w' : World} {A : Option Addr} {xs : List UInt8} {B : Nat} (h : Rd w A xs) (hb : Below B v w') (hv : v.heap = w.heap) (hB : B = w.heap.size) : Rd w' A xs := by
  subst hB
  intro hne
  obtain ⟨b, off, e, hlt, hc⟩ := h hne
  refine ⟨b, off, e, Nat.lt_of_lt_of_le hlt (by rw [← hv]; exact hb.size), fun j hj => (hb.cell (p := ⟨b, off + j, none⟩) hlt).trans (Eq.trans ?_ (hc j hj))⟩
  exact World.cell?_of_block (by rw [hv])
theorem below_drewN {B : Nat} {a w : World} (h : Below B a w) (n : Nat) : Below B a (w.drewN n) := ⟨h.os, h.tape, h.output, h.size, h.block⟩
theorem below_undrew {B : Nat} {w w' : World} (h : Below B w.drew w') : Below B w w' := ⟨h.os, h.tape, h.output, h.size, h.block⟩
theorem below_undrewN {B : Nat} {w w' : World} {n : Nat} (h : Below B (w.drewN n) w') : Below B w w' := ⟨h.os, h.tape, h.output, h.size, h.block⟩
theorem Rd.drew {w : World} {A : Option Addr} {xs : List UInt8} (h : Rd w A xs) : Rd w.drew A xs := h
theorem Rd.drewN {w : World} {A : Option Addr} {xs : List UInt8} (h : Rd w A xs) (n : Nat) : Rd (w.drewN n) A xs := h
theorem Rd.alloc {w : World} {A : Option Addr} {xs : List UInt8} (h : Rd w A xs) (o : Obj) : Rd (w.alloc o) A xs :=
  h.below ((Below.refl _ _).alloc (Nat.le_refl _) o)
theorem Rd.undrewN {w : World} {A : Option Addr} {xs : List UInt8} {n : Nat} (h : Rd (w.drewN n) A xs) : Rd w A xs := h

/-- a part of a slice: from k on (the address moves by k) -/
theorem Rd.cut {w : World} {b off : Nat} {xs : List UInt8} (h : Rd w (some ⟨b, off, none⟩) xs) (k m : Nat) :
    Rd w (some ⟨b, off + k, none⟩) ((xs.drop k).take m) := by
  intro hne
  have hlen : 0 < ((xs.drop k).take m).length := List.length_pos_iff.mpr hne
  obtain ⟨b', off', e, hlt, hc⟩ := h.at_ (k := k) (by simp at hlen; omega)
  simp only [Option.some.injEq, Addr.mk.injEq, and_true] at e
  obtain ⟨rfl, rfl⟩ := e
  refine ⟨b, off + k, rfl, hlt, fun j hj => ?_⟩
  have hj' : k + j < xs.length := by simp at hj; omega
  have := hc (k + j) hj'
  simp only [List.getElem_take, List.getElem_drop]
  rw [← this, Nat.add_assoc]
theorem Rd.cut0 {w : World} {b off : Nat} {xs : List UInt8} (h : Rd w (some ⟨b, off, none⟩) xs) (m : Nat) :
    Rd w (some ⟨b, off, none⟩) (xs.take m) := by
  have := h.cut 0 m
  simpa using this
theorem Rd.drop {w : World} {b off : Nat} {xs : List UInt8} (h : Rd w (some ⟨b, off, none⟩) xs) (k : Nat) :
    Rd w (some ⟨b, off + k, none⟩) (xs.drop k) := by
  have := h.cut k (xs.length)
  rwa [List.take_of_length_le (by simp)] at this

/-- a row of the call's own reads as its bytes -/
theorem Rd.of_own {w : World} {base : Nat} {e : TypeId} {A : Option Addr} {n c : Nat} {xs : List UInt8} (h : w.ownsRow base e 1 (.slice A n c) xs.length (cb xs)) : Rd w A xs := by
  intro hne
  have hpos : 0 < xs.length := List.length_pos_iff.mpr hne
  obtain ⟨g, cap, hv, _, hlt⟩ := h.form hpos
  have hA : A = some ⟨g, 0, none⟩ := by injection hv
  subst hA
  refine ⟨g, 0, rfl, hlt, fun j hj => ?_⟩
  have := h.cells (g := g) rfl j _ (cb_get xs j hj)
  simp only [Addr.add] at this
  split at this
  · rename_i h0; subst h0; simpa using this
  · simpa using this

/-- a result that is a row of the call's own, in new memory: it reads as xs; nothing old has changed -/
def OwnBack (e8 : TypeId) (w : World) (xs : List UInt8) (e : Ending) (w' : World) : Prop :=
  ∃ A n c, e = .returned (.slice A n c) ∧ xs.length = n ∧ w'.ownsRow w.heap.size e8 1 (.slice A n c) xs.length (cb xs) ∧ Below w.heap.size w w'

theorem own_mono {w : World} {base base' : Nat} {e : TypeId} {size : Nat} {v : Value} {n : Nat} {xs : List Value} (h : w.ownsRow base e size v n xs) (hb : base' ≤ base) : w.ownsRow base' e size v n xs := by
  refine ⟨h.1, ?_⟩
  rcases h.2 with h0 | ⟨g, cap, cur, e1, h2, h3⟩
  · exact .inl h0
  · exact .inr ⟨g, cap, cur, e1, Nat.le_trans hb h2, h3⟩
theorem OwnBack.lift {e8 : TypeId} {w w1 w' : World} {xs : List UInt8} {e : Ending} (h : OwnBack e8 w1 xs e w') (hb : Below w.heap.size w w1) : OwnBack e8 w xs e w' := by
  obtain ⟨A, n, c, he, hn, ho, hl⟩ := h
  exact ⟨A, n, c, he, hn, own_mono ho hb.size, hb.trans (hl.mono hb.size)⟩

/-- a result and a bool that says whether there is one: a row of the call's own, in new memory -/
def OwnOpt (e8 : TypeId) (w : World) (o : Option (List UInt8)) (e : Ending) (w' : World) : Prop :=
  ∃ A n c, e = .returned (.tuple #[.slice A n c, .bool o.isSome]) ∧ (o.getD []).length = n ∧ w'.ownsRow w.heap.size e8 1 (.slice A n c) (o.getD []).length (cb (o.getD [])) ∧ Below w.heap.size w w'
theorem OwnOpt.lift {e8 : TypeId} {w w1 w' : World} {o : Option (List UInt8)} {e : Ending} (h : OwnOpt e8 w1 o e w') (hb : Below w.heap.size w w1) : OwnOpt e8 w o e w' := by
  obtain ⟨A, n, c, he, hn, ho, hl⟩ := h
  exact ⟨A, n, c, he, hn, own_mono ho hb.size, hb.trans (hl.mono hb.size)⟩
theorem OwnOpt.some_ {e8 : TypeId} {w w1 w' : World} {xs : List UInt8} {o : Option (List UInt8)} {A : Option Addr} {n c : Nat} (ho : o = some xs) (hn : xs.length = n) (hown : w'.ownsRow w1.heap.size e8 1 (.slice A n c) xs.length (cb xs)) (hb : Below w1.heap.size w1 w') (hb1 : Below w.heap.size w w1) :
    OwnOpt e8 w o (.returned (.tuple #[.slice A n c, .bool true])) w' := by
  subst ho
  exact ⟨A, n, c, rfl, hn, own_mono hown hb1.size, hb1.trans (hb.mono hb1.size)⟩
theorem OwnOpt.none_ {e8 : TypeId} {w w' : World} {o : Option (List UInt8)} (ho : o = none) (hb : Below w.heap.size w w') :
    OwnOpt e8 w o (.returned (.tuple #[.slice none 0 0, .bool false])) w' := by
  subst ho
  exact ⟨none, 0, 0, rfl, rfl, World.ownsRow_nil _ _ _ _, hb⟩

/-- a block that the call has just made reads as its bytes -/
theorem Rd.new (w : World) (cs : Array Value) (t : TypeId) (xs : List UInt8) (h : cs.toList = cb xs) : Rd (w.alloc (.cells cs t)) (some ⟨w.heap.size, 0, none⟩) xs := by
  intro _
  refine ⟨_, 0, rfl, by simp, fun j hj => ?_⟩
  have h1 := cb_get xs j hj
  rw [← h, Array.getElem?_toList] at h1
  rw [Nat.zero_add]
  exact (cell_of_row _ _ j cs t (0, 0) (heap_alloc_new w _)).trans h1

theorem Rd.newAt {w : World} {cs : Array Value} {t : TypeId} {k : Nat} (xs : List UInt8) (hk : w.heap.size = k) (h : cs.toList = cb xs) : Rd (w.alloc (.cells cs t)) (some ⟨k, 0, none⟩) xs := by
  subst hk
  exact Rd.new w cs t xs h

section
variable {P : Program}
/-- append of bytes onto a row of the call's own, whatever the source's address -/
theorem run_app (w : World) (base : Nat) (t ty e : TypeId) (ht : P.underlying t = some (.slice e)) (hinfo : (P.info? e).map (fun i => (i.zero, i.size, i.bytes)) = some (some (.int .u8 0), 1, 1))
    (v : Value) (xs : List UInt8) (hown : w.ownsRow base e 1 v xs.length (cb xs)) (A : Option Addr) (m c : Nat) (ys : List UInt8) (hm : ys.length = m) (hr : Rd w A ys)
    (hsz : xs.length + m ≤ 140737488355328) (hbase : base ≤ w.heap.size) :
    ∃ A' c' w', (Builtin.append_ #[t, t] ty #[v, .slice A m c]).run P w = .ok (.slice A' (xs.length + m) c') w' ∧ w'.ownsRow base e 1 (.slice A' (xs.length + m) c') (xs ++ ys).length (cb (xs ++ ys)) ∧
      w.grownBy w' v.ownBlock ∧ ((Value.slice A' (xs.length + m) c').ownBlock = v.ownBlock ∨ (Value.slice A' (xs.length + m) c').ownBlock = some w.heap.size) := by
  obtain ⟨i, hi, hz, hz1, hz2⟩ := info_parts hinfo
  have form : ∀ {v' : Value} {w' : World} {zs : List Value} {k : Nat}, w'.ownsRow base e 1 v' k zs → ∃ A' c', v' = .slice A' k c' := by
    intro v' w' zs k h
    rcases h.2 with ⟨rfl, rfl⟩ | ⟨g, cap, cur, rfl, _⟩
    · exact ⟨none, 0, rfl⟩
    · exact ⟨_, _, rfl⟩
  have hlen : (xs ++ ys).length = xs.length + m := by simp [hm]
  rcases A with _ | ad
  · have hy : ys = [] := by
      rcases ys with _ | ⟨y, ys⟩
      · rfl
      · obtain ⟨b, off, e0, _⟩ := hr (by simp)
        cases e0
    subst hy
    obtain rfl : m = 0 := by simpa using hm.symm
    have hrun : (Builtin.append_ #[t, t] ty #[v, .slice none 0 c]).run P w = .ok v w := by
      rcases hown.2 with ⟨rfl, _⟩ | ⟨g, cap, cur, rfl, _, hh, hnc, _⟩
      · simp [Builtin.append_, run_underlying ht, sizeOf, typeInfo, hi, Builtin.lenOf, Builtin.firstCells]
      · simp [Builtin.append_, run_underlying ht, sizeOf, typeInfo, hi, Builtin.lenOf, Builtin.firstCells, hnc, storeCells]
    obtain ⟨A', c', rfl⟩ := form hown
    exact ⟨A', c', w, hrun, by simpa using hown, World.grownBy.refl w _, .inl rfl⟩
  · have hcells : ∀ j u, (cb ys)[j]? = some u → w.cell? (ad.add j) = some u := by
      intro j u hu
      have hj : j < ys.length := by
        rcases Nat.lt_or_ge j ys.length with h | h
        · exact h
        · rw [List.getElem?_eq_none (by rw [cb_length]; exact h)] at hu; cases hu
      obtain ⟨b, off, e0, _, hc⟩ := hr.at_ hj
      injection e0 with e0
      subst e0
      rw [cb_get ys j hj] at hu
      rw [← hu, ← hc j hj]
      unfold Addr.add
      split
      · rename_i h0; subst h0; simp
      · simp
    obtain ⟨v', w', hrun, h2, h3, _, h5⟩ := run_append_own_at (P := P) w base t ty e i (.int .u8 0) 1 1 ht hi hz hz1 hz2 rfl (by decide) v xs.length (cb xs) hown ad m c (cb ys) (by rw [cb_length, hm]; simp) hcells (cb_one ys)
      (by simp only [maxLen]; omega) (by omega) hbase
    obtain ⟨A', c', rfl⟩ := form h2
    exact ⟨A', c', w', hrun, by rw [cb_append, hlen]; exact h2, h3, h5⟩

theorem wp_app {w : World} {o : Oper} {a : Act} {K : Act → World → Prop} {Q : Exit → Act → World → Prop} (s x : Operand) (t : TypeId)
    (ho : o.op = .call { callee := .builtin .append, args := #[s, x], argTypes := #[t, t] })
    (base : Nat) (e : TypeId) (ht : P.underlying t = some (.slice e)) (hinfo : (P.info? e).map (fun i => (i.zero, i.size, i.bytes)) = some (some (.int .u8 0), 1, 1))
    (v : Value) (xs : List UInt8) (k : Nat) (hs : a.eval s = v) (hown : w.ownsRow base e 1 v xs.length (cb xs)) (A : Option Addr) (m c : Nat) (ys : List UInt8) (hx : a.eval x = .slice A m c) (hm : ys.length = m) (hr : Rd w A ys)
    (hk : xs.length + m = k) (hsz : k ≤ 140737488355328) (hbase : base ≤ w.heap.size)
    (h : ∀ A' c' w', w'.ownsRow base e 1 (.slice A' k c') (xs ++ ys).length (cb (xs ++ ys)) → w.grownBy w' v.ownBlock → ((Value.slice A' k c').ownBlock = v.ownBlock ∨ (Value.slice A' k c').ownBlock = some w.heap.size) →
      K (a.put o.dst (.slice A' k c')) w') : o.wp P a w K Q := by
  subst hk
  obtain ⟨A', c', w', hrun, h2, h3, h4⟩ := run_app (P := P) w base t o.type e ht hinfo v xs hown A m c ys hm hr hsz hbase
  unfold Oper.wp execOp
  simp only [ho, resolve, invoke, builtin, Sem.run_bind, Sem.run_pure, Result.andThen_ok, List.map_toArray, List.map_cons, List.map_nil, hs, hx, hrun]
  exact h A' c' w' h2 h3 h4

theorem wpList_app {w : World} {ops : Array Oper} {rest : List Oper} {o : Oper} {a : Act} {Q : Exit → Act → World → Prop} (hgd : o.guard = none) (s x : Operand) (t : TypeId)
    (ho : o.op = .call { callee := .builtin .append, args := #[s, x], argTypes := #[t, t] })
    (base : Nat) (e : TypeId) (ht : P.underlying t = some (.slice e)) (hinfo : (P.info? e).map (fun i => (i.zero, i.size, i.bytes)) = some (some (.int .u8 0), 1, 1))
    (v : Value) (xs : List UInt8) (k : Nat) (hs : a.eval s = v) (hown : w.ownsRow base e 1 v xs.length (cb xs)) (A : Option Addr) (m c : Nat) (ys : List UInt8) (hx : a.eval x = .slice A m c) (hm : ys.length = m) (hr : Rd w A ys)
    (hk : xs.length + m = k) (hsz : k ≤ 140737488355328) (hbase : base ≤ w.heap.size)
    (h : ∀ A' c' w', w'.ownsRow base e 1 (.slice A' k c') (xs ++ ys).length (cb (xs ++ ys)) → w.grownBy w' v.ownBlock → ((Value.slice A' k c').ownBlock = v.ownBlock ∨ (Value.slice A' k c').ownBlock = some w.heap.size) →
      wpList P ops Q rest (a.put o.dst (.slice A' k c')) w') : wpList P ops Q (o :: rest) a w :=
  wpList_plain hgd fun _ hK => wp_app s x t ho base e ht hinfo v xs k hs hown A m c ys hx hm hr hk hsz hbase fun A' c' w' h2 h3 h4 => hK _ _ (h A' c' w' h2 h3 h4)

/-- make([]byte, n): a row of zeros of the call's own -/
theorem wpList_mk8 {w : World} {ops : Array Oper} {rest : List Oper} {o : Oper} {a : Act} {Q : Exit → Act → World → Prop} (hgd : o.guard = none) (l c : Operand) (t : TypeId) (hop : o.op = Op.makeSlice t l c)
    (e : TypeId) (ht : P.underlying t = some (.slice e)) (hinfo : (P.info? e).map (fun i => (i.zero, i.size, i.bytes)) = some (some (.int .u8 0), 1, 1))
    (kl kc : IntKind) (L C : Int) (n : Nat) (hl : a.eval l = .int kl L) (hc : a.eval c = .int kc C) (hL : L = (n : Int)) (hC : C = (n : Int)) (hsz : n ≤ 281474976710656)
    (h : ∀ w', w'.ownsRow w.heap.size e 1 (.slice (some ⟨w.heap.size, 0, none⟩) n n) (List.replicate n (0 : UInt8)).length (cb (List.replicate n 0)) → w.grownBy w' none → wpList P ops Q rest (a.put o.dst (.slice (some ⟨w.heap.size, 0, none⟩) n n)) w') :
    wpList P ops Q (o :: rest) a w := by
  obtain ⟨i, hi, hz, hz1, hz2⟩ := info_parts hinfo
  refine wpList_make_full w hgd l c t hop w.heap.size e i (.int .u8 0) 1 ht hi hz hz1 kl kc L C n hl hc hL hC (by rw [hz2]; omega) (by simp only [maxLen]; omega) (Nat.le_refl _) fun w' h1 h2 => h w' ?_ h2
  have e1 : (madeCells (Value.int .u8 0).cells (n * 1)).toList = cb (List.replicate n 0) := by
    rw [Nat.mul_one]
    exact (toList_madeCells_one _ _).trans (by simp [cb])
  rw [e1] at h1
  simpa using h1
end

/-- a store into a row of bytes of the call's own -/
theorem own_store {w : World} {base g n cap j : Nat} {e : TypeId} {xs : List UInt8} (h : w.ownsRow base e 1 (.slice (some ⟨g, 0, none⟩) n cap) xs.length (cb xs)) (x : UInt8) (hn : xs.length = n) :
    (w.setCell ⟨g, j, none⟩ (.int .u8 (x.toNat : Int))).ownsRow base e 1 (.slice (some ⟨g, 0, none⟩) n cap) (xs.set j x).length (cb (xs.set j x)) := by
  subst hn
  have h1 := (h.stored j (.int .u8 (x.toNat : Int))).1
  have e1 : (cb xs).set j (.int .u8 (x.toNat : Int)) = cb (xs.set j x) := by simp [cb, List.map_set]
  rw [e1] at h1
  simpa using h1
theorem own_cell {w : World} {base g n cap j : Nat} {e : TypeId} {xs : List UInt8} (h : w.ownsRow base e 1 (.slice (some ⟨g, 0, none⟩) n cap) xs.length (cb xs)) (hj : j < xs.length) (hn : xs.length = n) :
    w.cell? ⟨g, j, none⟩ = some (.int .u8 (xs[j].toNat : Int)) := by
  subst hn
  rw [h.cellAt j (by omega), cb_get xs j hj]
theorem own_frozen {w : World} {base g n cap : Nat} {e : TypeId} {xs : List UInt8} (h : w.ownsRow base e 1 (.slice (some ⟨g, 0, none⟩) n cap) xs.length (cb xs)) (j : Nat) (hn : xs.length = n) :
    w.frozen? ⟨g, j, none⟩ = false := by
  subst hn
  exact h.frozenAt j

/-- string(b) -/
theorem run_str {P : Program} (src dst e : TypeId) (hs : P.underlying src = some (.slice e)) (he : P.underlying e = some (.int .u8)) (hd : P.underlying dst = some .string)
    {w : World} {A : Option Addr} {n : Nat} (c : Nat) {xs : List UInt8} (hn : xs.length = n) (hr : Rd w A xs) : (convert src dst (.slice A n c)).run P w = .ok (.string ⟨xs.toArray⟩) w := by
  subst hn
  rcases A with _ | ad
  · have hx : xs = [] := by
      rcases xs with _ | ⟨x, xs⟩
      · rfl
      · obtain ⟨b, off, e0, _⟩ := hr (by simp)
        cases e0
    subst hx
    exact run_convert_bytes_nil w src e hs he 0 c dst hd
  · refine run_convert_bytes_back w src dst e ad c xs hs he hd fun j hj => ?_
    obtain ⟨b, off, e0, _, hc⟩ := hr.at_ hj
    injection e0 with e0
    subst e0
    rw [← hc j hj]
    unfold Addr.add
    split
    · rename_i h0; subst h0; simp
    · simp

/-- ten zeros, 255, 255 -/
def mp : List UInt8 := [0, 0, 0, 0, 0, 0, 0, 0, 0, 0, 255, 255]

/-- the IPv4 address of bytes -/
def to4 (xs : List UInt8) : Option (List UInt8) :=
  if xs.length = 4 then some xs else if xs.length = 16 ∧ xs.take 12 = mp then some (xs.drop 12) else none

theorem to4_four {xs : List UInt8} (h : xs.length = 4) : to4 xs = some xs := by simp [to4, h]
theorem to4_mapped {xs : List UInt8} (h : xs.length = 16) (h' : xs.take 12 = mp) : to4 xs = some (xs.drop 12) := by simp [to4, h, h']
theorem to4_six {xs : List UInt8} (h : xs.length = 16) (h' : xs.take 12 ≠ mp) : to4 xs = none := by simp [to4, h, h']
theorem to4_other {xs : List UInt8} (h : xs.length ≠ 4) (h' : xs.length ≠ 16) : to4 xs = none := by simp [to4, h, h']
theorem to4_le (xs : List UInt8) : ((to4 xs).getD []).length ≤ xs.length := by
  unfold to4
  split
  · simp
  · split <;> simp

/-- the address in 16 bytes -/
def to16 (xs : List UInt8) : Option (List UInt8) := if xs.length = 4 then some (mp ++ xs) else if xs.length = 16 then some xs else none
theorem to16_four {xs : List UInt8} (h : xs.length = 4) : to16 xs = some (mp ++ xs) := by simp [to16, h]
theorem to16_six {xs : List UInt8} (h : xs.length = 16) : to16 xs = some xs := by simp [to16, h]
theorem to16_other {xs : List UInt8} (h : xs.length ≠ 4) (h' : xs.length ≠ 16) : to16 xs = none := by simp [to16, h, h']
theorem to16_le (xs : List UInt8) : ((to16 xs).getD []).length ≤ 16 := by
  unfold to16
  split
  · rename_i h; simp [mp, h]
  · split <;> simp <;> omega

/-- a row of the call's own has a length that is at most its capacity -/
theorem own_cap {w : World} {base : Nat} {e : TypeId} {A : Option Addr} {n c m : Nat} {xs : List Value} (h : w.ownsRow base e 1 (.slice A n c) m xs) : n ≤ c := by
  rcases h.2 with ⟨h1, _⟩ | ⟨g, cap, cur, h1, _, _, h2, _⟩
  · injection h1 with _ h2 h3; omega
  · injection h1 with _ h3 h4; omega

/-- a row of the call's own that fills its block: the block's cells -/
theorem own_block {w : World} {base g n : Nat} {e : TypeId} {xs : List UInt8} (h : w.ownsRow base e 1 (.slice (some ⟨g, 0, none⟩) n n) xs.length (cb xs)) (hn : xs.length = n) : w.heap[g]? = some (.cells (cb xs).toArray e (0, 0)) ∧ base ≤ g := by
  subst hn
  rcases h.2 with ⟨h', _⟩ | ⟨g', cap', cur, h', hb, hg, _, _, hcs, htake⟩
  · simp at h'
  · simp only [Value.slice.injEq, Option.some.injEq, Addr.mk.injEq, and_true, true_and] at h'
    obtain ⟨rfl, rfl⟩ := h'
    have e1 : cur = (cb xs).toArray := by
      rw [List.take_of_length_le (by simp; omega)] at htake
      rw [← htake]
    rw [← e1]
    exact ⟨hg, hb⟩
theorem block_own {w : World} {base g n : Nat} {e : TypeId} {xs : List UInt8} (hg : w.heap[g]? = some (.cells (cb xs).toArray e (0, 0))) (hb : base ≤ g) (hn : xs.length = n) (hm : n ≤ 281474976710656) : w.ownsRow base e 1 (.slice (some ⟨g, 0, none⟩) n n) xs.length (cb xs) := by
  subst hn
  exact ⟨by simp [cb_length], .inr ⟨g, xs.length, (cb xs).toArray, rfl, hb, hg, Nat.le_refl _, by simp only [maxLen]; omega, by simp [cb_length], by rw [List.take_of_length_le (by simp [cb_length])]⟩⟩

/-- the cells behind an address, as the laws on copy ask for them -/
theorem rd_cells {w : World} {b off : Nat} {xs : List UInt8} (h : Rd w (some ⟨b, off, none⟩) xs) : ∀ j u, (cb xs)[j]? = some u → w.cell? ((⟨b, off, none⟩ : Addr).add j) = some u := by
  intro j u hu
  have hj : j < xs.length := by
    rcases Nat.lt_or_ge j xs.length with h | h
    · exact h
    · rw [List.getElem?_eq_none (by rw [cb_length]; exact h)] at hu; cases hu
  obtain ⟨b', off', e0, _, hc⟩ := h.at_ hj
  injection e0 with e0
  injection e0 with e1 e2
  subst e1 e2
  rw [cb_get xs j hj] at hu
  rw [← hu, ← hc j hj]
  unfold Addr.add
  split
  · rename_i h0; subst h0; simp
  · simp

/-- what (net.IP).To4 gives: a part of what came in, or nil -/
def PartOpt (w : World) (o : Option (List UInt8)) (e : Ending) (w' : World) : Prop :=
  ∃ A n c, e = .returned (.slice A n c) ∧ (o.getD []).length = n ∧ n ≤ c ∧ Rd w A (o.getD []) ∧ (A.isSome = o.isSome) ∧ w = w'
theorem PartOpt.some_ {w : World} {o : Option (List UInt8)} {ys : List UInt8} {A : Addr} {n c : Nat} (ho : o = some ys) (hn : ys.length = n) (hc : n ≤ c) (hr : Rd w (some A) ys) :
    PartOpt w o (.returned (.slice (some A) n c)) w := by
  subst ho
  exact ⟨some A, n, c, rfl, hn, hc, hr, rfl, rfl⟩
theorem PartOpt.none_ {w : World} {o : Option (List UInt8)} (ho : o = none) : PartOpt w o (.returned (.slice none 0 0)) w := by
  subst ho
  exact ⟨none, 0, 0, rfl, rfl, Nat.le_refl _, Rd.nil _ _, rfl, rfl⟩
/-- a slice, new or a part of what came in, or nil; nothing old has changed -/
def BackOpt (w : World) (o : Option (List UInt8)) (e : Ending) (w' : World) : Prop :=
  ∃ A n c, e = .returned (.slice A n c) ∧ (o.getD []).length = n ∧ n ≤ c ∧ Rd w' A (o.getD []) ∧ (A.isSome = o.isSome) ∧ Below w.heap.size w w'
theorem BackOpt.some_ {w w' : World} {o : Option (List UInt8)} {ys : List UInt8} {A : Addr} {n c : Nat} (ho : o = some ys) (hn : ys.length = n) (hc : n ≤ c) (hr : Rd w' (some A) ys) (hb : Below w.heap.size w w') :
    BackOpt w o (.returned (.slice (some A) n c)) w' := by
  subst ho
  exact ⟨some A, n, c, rfl, hn, hc, hr, rfl, hb⟩
theorem BackOpt.none_ {w w' : World} {o : Option (List UInt8)} (ho : o = none) (hb : Below w.heap.size w w') : BackOpt w o (.returned (.slice none 0 0)) w' := by
  subst ho
  exact ⟨none, 0, 0, rfl, rfl, Nat.le_refl _, Rd.nil _ _, rfl, hb⟩

/-- a contract that leaves the world alone, its world under a name of its own -/
theorem calls_bel {P : Program} {f : FuncId} {args : Array Value} {w : World} {x : Ending} (h : Calls P f args w fun e w' => e = x ∧ w = w') : Calls P f args w fun e w' => e = x ∧ Below w.heap.size w w' :=
  h.mono fun _ _ ⟨he, hw⟩ => ⟨he, hw ▸ Below.refl _ _⟩

theorem info8 : (Tryd.prog.info? 5).map (fun i => (i.zero, i.size, i.bytes)) = some (some (.int .u8 0), 1, 1) := by kernel_rfl

end Go.Proofs.YtjepkkfpgmgnjaaDoor
