/-
  What a function gives that appends bytes to a buffer of its caller's own: the buffer with more behind it; nothing that was there has changed but the buffer's own block. No condition.
-/
import Derived.Test.YtjepkkfpgmgnjaaDoorZs
import Derived.Test.YtjepkkfpgmgnjaaDoorHexP
namespace Go.Proofs.YtjepkkfpgmgnjaaDoor
open Go.RowKit
set_option linter.unusedVariables false

/-- nothing has changed but the blocks of a row, which may have moved into new memory -/
def Moved (w w' : World) (v v' : Value) : Prop := w.grownBy w' v.ownBlock ∧ (v'.ownBlock = v.ownBlock ∨ ∃ g, v'.ownBlock = some g ∧ w.heap.size ≤ g)
theorem Moved.refl (w : World) (v : Value) : Moved w w v v := ⟨World.grownBy.refl w _, .inl rfl⟩
theorem Moved.trans {w w1 w2 : World} {v v1 v2 : Value} (h : Moved w w1 v v1) (h2 : Moved w1 w2 v1 v2) : Moved w w2 v v2 := by
  obtain ⟨g1, o1⟩ := h
  obtain ⟨g2, o2⟩ := h2
  refine ⟨⟨g2.os.trans g1.os, g2.tape.trans g1.tape, g2.output.trans g1.output, Nat.le_trans g1.size g2.size, fun k hk hne => ?_⟩, ?_⟩
  · rw [g2.block k (Nat.lt_of_lt_of_le hk g1.size) ?_, g1.block k hk hne]
    rcases o1 with o1 | ⟨g, o1, hg⟩
    · rw [o1]; exact hne
    · rw [o1]; intro e; injection e with e; omega
  · rcases o2 with o2 | ⟨g, o2, hg⟩
    · rw [o2]; exact o1
    · exact .inr ⟨g, o2, Nat.le_trans g1.size hg⟩
theorem Moved.of_below {w w' : World} (v : Value) (hb : Below w.heap.size w w') : Moved w w' v v := ⟨⟨hb.os, hb.tape, hb.output, hb.size, fun k hk _ => hb.block k hk⟩, .inl rfl⟩
theorem Moved.alloc {w w' : World} {v v' : Value} (h : Moved w w' v v') (o : Obj) : Moved w (w'.alloc o) v v' := h.trans (Moved.of_below v' ((Below.refl _ _).alloc (Nat.le_refl _) o))
theorem Moved.drewN {w w' : World} {v v' : Value} (h : Moved w w' v v') (n : Nat) : Moved w (w'.drewN n) v v' := ⟨⟨h.1.os, h.1.tape, h.1.output, h.1.size, h.1.block⟩, h.2⟩
theorem Moved.cell {w w' : World} {v v' : Value} (h : Moved w w' v v') {a : Addr} {x : Value} (hc : w.cell? a = some x) (hne : some a.block ≠ v.ownBlock) : w'.cell? a = some x := h.1.cell hc hne
/-- old memory below the row's base is as it was -/
theorem Moved.below {w0 w w' : World} {v v' : Value} {e : TypeId} {n : Nat} {xs : List Value} (h : Moved w w' v v') (hb : Below w0.heap.size w0 w) (ho : w.ownsRow w0.heap.size e 1 v n xs) : Below w0.heap.size w0 w' :=
  hb.grown h.1 hb.size fun k hk => (ho.lt k hk).1

/-- the buffer l, as a value -/
def AppTo (base : Nat) (w : World) (v : Value) (l : List UInt8) (e : Ending) (w' : World) : Prop :=
  ∃ A n c, e = .returned (.slice A n c) ∧ l.length = n ∧ w'.ownsRow base 5 1 (.slice A n c) l.length (cb l) ∧ Moved w w' v (.slice A n c)
theorem AppTo.lift {base : Nat} {w w1 w' : World} {v v1 : Value} {l : List UInt8} {e : Ending} (h : AppTo base w1 v1 l e w') (hm : Moved w w1 v v1) : AppTo base w v l e w' := by
  obtain ⟨A, n, c, he, hn, ho, hm2⟩ := h
  exact ⟨A, n, c, he, hn, ho, hm.trans hm2⟩
/-- a block that was made after the row is none of the row's -/
theorem own_ne {w : World} {base : Nat} {e : TypeId} {v : Value} {n : Nat} {xs : List Value} (ho : w.ownsRow base e 1 v n xs) {k : Nat} (hk : w.heap.size ≤ k) : some k ≠ v.ownBlock := by
  intro h
  have := (ho.lt k h.symm).2
  omega

section
variable {P : Program}
/-- append of bytes to a buffer of the caller's own, as the walk meets it (the bytes stand in a new block) -/
theorem wpList_app8 {w : World} {ops : Array Oper} {rest : List Oper} {o : Oper} {a : Act} {Q : Exit → Act → World → Prop} (hgd : o.guard = none) (s x : Operand) (t : TypeId)
    (ho : o.op = .call { callee := .builtin .append, args := #[s, x], argTypes := #[t, t] })
    (base : Nat) (e : TypeId) (ht : P.underlying t = some (.slice e)) (hinfo : (P.info? e).map (fun i => (i.zero, i.size, i.bytes)) = some (some (.int .u8 0), 1, 1))
    (A0 : Option Addr) (n0 c0 : Nat) (l ys : List UInt8) (hn0 : l.length = n0) (hs : a.eval s = .slice A0 n0 c0) (C : Array Value) (te : TypeId) (hown : w.ownsRow base e 1 (.slice A0 n0 c0) l.length (cb l)) (m cap k : Nat)
    (hx : a.eval x = .slice (some ⟨w.heap.size, 0, none⟩) m cap) (hm : ys.length = m) (hC : C.toList = cb ys) (hk : n0 + m = k) (hsz : k ≤ 140737488355328) (hbase : base ≤ w.heap.size)
    (h : ∀ A' c' w', w'.ownsRow base e 1 (.slice A' k c') (l ++ ys).length (cb (l ++ ys)) → Moved w w' (.slice A0 n0 c0) (.slice A' k c') →
      wpList P ops Q rest (a.put o.dst (.slice A' k c')) w') : wpList P ops Q (o :: rest) a (w.alloc (.cells C te)) := by
  refine wpList_app hgd s x t ho base e ht hinfo (.slice A0 n0 c0) l k hs (hown.alloc _) (some ⟨w.heap.size, 0, none⟩) m cap ys hx hm (Rd.new w C te ys hC) (by omega) (by omega) (by simp; omega) ?_
  intro A' c' w' ho2 hg hat
  refine h A' c' w' ho2 ((Moved.of_below _ ((Below.refl _ _).alloc (Nat.le_refl _) (.cells C te))).trans ⟨hg, ?_⟩)
  rcases hat with hat | hat
  · exact .inl hat
  · exact .inr ⟨_, hat, Nat.le_refl _⟩
end

/-- a byte in decimal -/
def dec (n : Nat) : List UInt8 := if 100 ≤ n then [dg (n / 100), dg (n / 10 % 10), dg (n % 10)] else if 10 ≤ n then [dg (n / 10 % 10), dg (n % 10)] else [dg (n % 10)]
theorem dec_len (n : Nat) : (dec n).length ≤ 3 := by unfold dec; split <;> (try split) <;> simp
/-- a number below 65536 in hexadecimal, without zeros at its front -/
def hx (n : Nat) : List UInt8 := if 4096 ≤ n then [dg (n / 4096), dg (n / 256 % 16), dg (n / 16 % 16), dg (n % 16)] else if 256 ≤ n then [dg (n / 256 % 16), dg (n / 16 % 16), dg (n % 16)] else if 16 ≤ n then [dg (n / 16 % 16), dg (n % 16)] else [dg (n % 16)]
theorem hx_len (n : Nat) : (hx n).length ≤ 4 := by unfold hx; split <;> (try split) <;> (try split) <;> simp
theorem and15 (n : Nat) (h : n < 65536) : bits BinOp.and IntKind.u16 (n : Int) 15 = ((n % 16 : Nat) : Int) := by
  rw [show (15 : Int) = ((15 : Nat) : Int) from rfl, u16_and_nat n 15 h (by decide), show (15 : Nat) = 2 ^ 4 - 1 from rfl, Nat.and_two_pow_sub_one_eq_mod]

set_option maxRecDepth 100000 in
set_option maxHeartbeats 2000000 in
theorem appDec_any (A : Option Addr) (nn c n base : Nat) (l : List UInt8) (w : World) (hn : n < 256) (hnn : l.length = nn) (ho : w.ownsRow base 5 1 (.slice A nn c) l.length (cb l)) (hbase : base ≤ w.heap.size) (hl : nn ≤ 100000) :
    Calls Tryd.prog 84 #[.slice A nn c, .int .u8 (n : Int)] w fun e w' => AppTo base w (.slice A nn c) (l ++ dec n) e w' := by
  have HN := Lib.hid hnn
  clear hnn
  have z1 : n / 100 < 16 := by omega
  have z2 : n / 10 % 10 < 16 := by omega
  have z3 : n % 10 < 16 := by omega
  have i1 : (0 : Int) ≤ (n : Int) / 100 := by omega
  have i2 : (n : Int) / 100 < 16 := by omega
  have i3 : (0 : Int) ≤ (n : Int) / 10 % 10 := by omega
  have i4 : (n : Int) / 10 % 10 < 16 := by omega
  have i5 : (0 : Int) ≤ (n : Int) % 10 := by omega
  have i6 : (n : Int) % 10 < 16 := by omega
  have hcs : n < 10 ∨ (10 ≤ n ∧ n < 100) ∨ 100 ≤ n := by omega
  rcases hcs with h | ⟨h, h'⟩ | h
  · have HD := Lib.hid (show dec n = [dg (n % 10)] by unfold dec; rw [if_neg (by omega), if_neg (by omega)])
    go_enter Tryd.func84, Tryd.ntmps84
    go_wp2_with (first
      | (at_builtin; refine wpList_app8 rfl (.tmp 22) (.tmp 26) 22 rfl base 5 Tryd.underlying22 info8 A nn c l [dg (n % 10)] HN.out rfl _ _ ho 1 1 (nn + 1) rfl rfl (by simp [cb, dig_get _ z3]) rfl (by omega) hbase ?_; intro A1 c1 w1 ho1 hm1; have hs1 := hm1.1.size))
    go_ret
    rw [HD.out]
    have e1 : l ++ [dg (n % 10)] = (l ++ [dg (n % 10)]) := by simp
    rw [e1]
    exact ⟨A1, nn + 1, c1, rfl, by simp [HN.out], ho1, hm1⟩
  · have HD := Lib.hid (show dec n = [dg (n / 10 % 10), dg (n % 10)] by unfold dec; rw [if_neg (by omega), if_pos (by omega)])
    go_enter Tryd.func84, Tryd.ntmps84
    go_wp2_with (first
      | (at_builtin; refine wpList_app8 rfl (.tmp 15) (.tmp 20) 22 rfl base 5 Tryd.underlying22 info8 A nn c l [dg (n / 10 % 10)] HN.out rfl _ _ ho 1 1 (nn + 1) rfl rfl (by simp [cb, dig_get _ z2]) rfl (by omega) hbase ?_; intro A1 c1 w1 ho1 hm1; have hs1 := hm1.1.size)
      | (at_builtin; refine wpList_app8 rfl (.tmp 22) (.tmp 26) 22 rfl base 5 Tryd.underlying22 info8 A1 (nn + 1) c1 (l ++ [dg (n / 10 % 10)]) [dg (n % 10)] (by simp [HN.out]) rfl _ _ ho1 1 1 (nn + 1 + 1) rfl rfl (by simp [cb, dig_get _ z3]) rfl (by omega) (by omega) ?_; intro A2 c2 w2 ho2 hm2; have hs2 := hm2.1.size))
    go_ret
    rw [HD.out]
    have e1 : l ++ [dg (n / 10 % 10), dg (n % 10)] = ((l ++ [dg (n / 10 % 10)]) ++ [dg (n % 10)]) := by simp
    rw [e1]
    exact ⟨A2, nn + 1 + 1, c2, rfl, by simp [HN.out], ho2, (hm1).trans hm2⟩
  · have HD := Lib.hid (show dec n = [dg (n / 100), dg (n / 10 % 10), dg (n % 10)] by unfold dec; rw [if_pos (by omega)])
    go_enter Tryd.func84, Tryd.ntmps84
    go_wp2_with (first
      | (at_builtin; refine wpList_app8 rfl (.tmp 7) (.tmp 11) 22 rfl base 5 Tryd.underlying22 info8 A nn c l [dg (n / 100)] HN.out rfl _ _ ho 1 1 (nn + 1) rfl rfl (by simp [cb, dig_get _ z1]) rfl (by omega) hbase ?_; intro A1 c1 w1 ho1 hm1; have hs1 := hm1.1.size)
      | (at_builtin; refine wpList_app8 rfl (.tmp 15) (.tmp 20) 22 rfl base 5 Tryd.underlying22 info8 A1 (nn + 1) c1 (l ++ [dg (n / 100)]) [dg (n / 10 % 10)] (by simp [HN.out]) rfl _ _ ho1 1 1 (nn + 1 + 1) rfl rfl (by simp [cb, dig_get _ z2]) rfl (by omega) (by omega) ?_; intro A2 c2 w2 ho2 hm2; have hs2 := hm2.1.size)
      | (at_builtin; refine wpList_app8 rfl (.tmp 22) (.tmp 26) 22 rfl base 5 Tryd.underlying22 info8 A2 (nn + 1 + 1) c2 ((l ++ [dg (n / 100)]) ++ [dg (n / 10 % 10)]) [dg (n % 10)] (by simp [HN.out]) rfl _ _ ho2 1 1 (nn + 1 + 1 + 1) rfl rfl (by simp [cb, dig_get _ z3]) rfl (by omega) (by omega) ?_; intro A3 c3 w3 ho3 hm3; have hs3 := hm3.1.size))
    go_ret
    rw [HD.out]
    have e1 : l ++ [dg (n / 100), dg (n / 10 % 10), dg (n % 10)] = (((l ++ [dg (n / 100)]) ++ [dg (n / 10 % 10)]) ++ [dg (n % 10)]) := by simp
    rw [e1]
    exact ⟨A3, nn + 1 + 1 + 1, c3, rfl, by simp [HN.out], ho3, ((hm1).trans hm2).trans hm3⟩

set_option maxRecDepth 100000 in
set_option maxHeartbeats 2000000 in
theorem appHex_any (A : Option Addr) (nn c n base : Nat) (l : List UInt8) (w : World) (hn : n < 65536) (hnn : l.length = nn) (ho : w.ownsRow base 5 1 (.slice A nn c) l.length (cb l)) (hbase : base ≤ w.heap.size) (hl : nn ≤ 100000) :
    Calls Tryd.prog 88 #[.slice A nn c, .int .u16 (n : Int)] w fun e w' => AppTo base w (.slice A nn c) (l ++ hx n) e w' := by
  have HN := Lib.hid hnn
  clear hnn
  have z0 : n / 4096 < 16 := by omega
  have z1 : n / 256 % 16 < 16 := by omega
  have z2 : n / 16 % 16 < 16 := by omega
  have z3 : n % 16 < 16 := by omega
  have b1 : bits BinOp.and IntKind.u16 ((n : Int) / 256) 15 = (n : Int) / 256 % 16 := by have := and15 (n / 256) (by omega); simpa using this
  have b2 : bits BinOp.and IntKind.u16 ((n : Int) / 16) 15 = (n : Int) / 16 % 16 := by have := and15 (n / 16) (by omega); simpa using this
  have b3 : bits BinOp.and IntKind.u16 (n : Int) 15 = (n : Int) % 16 := by have := and15 n hn; simpa using this
  have i0 : (n : Int) / 4096 < 16 := by omega
  have i1 : (0 : Int) ≤ (n : Int) / 4096 := by omega
  have hcs : n < 16 ∨ (16 ≤ n ∧ n < 256) ∨ (256 ≤ n ∧ n < 4096) ∨ 4096 ≤ n := by omega
  rcases hcs with h | ⟨h, h'⟩ | ⟨h, h'⟩ | h
  · have HD := Lib.hid (show hx n = [dg (n % 16)] by unfold hx; rw [if_neg (by omega), if_neg (by omega), if_neg (by omega)])
    go_enter Tryd.func88, Tryd.ntmps88
    go_wp2_with (first
      | (at_builtin; refine wpList_app8 rfl (.tmp 31) (.tmp 35) 22 rfl base 5 Tryd.underlying22 info8 A nn c l [dg (n % 16)] HN.out rfl _ _ ho 1 1 (nn + 1) rfl rfl (by simp [cb, dig_get _ z3]) rfl (by omega) hbase ?_; intro A1 c1 w1 ho1 hm1; have hs1 := hm1.1.size))
    go_ret
    rw [HD.out]
    have e1 : l ++ [dg (n % 16)] = (l ++ [dg (n % 16)]) := by simp
    rw [e1]
    exact ⟨A1, nn + 1, c1, rfl, by simp [HN.out], ho1, hm1⟩
  · have HD := Lib.hid (show hx n = [dg (n / 16 % 16), dg (n % 16)] by unfold hx; rw [if_neg (by omega), if_neg (by omega), if_pos (by omega)])
    go_enter Tryd.func88, Tryd.ntmps88
    go_wp2_with (first
      | (at_builtin; refine wpList_app8 rfl (.tmp 24) (.tmp 29) 22 rfl base 5 Tryd.underlying22 info8 A nn c l [dg (n / 16 % 16)] HN.out rfl _ _ ho 1 1 (nn + 1) rfl rfl (by simp [cb, dig_get _ z2]) rfl (by omega) hbase ?_; intro A1 c1 w1 ho1 hm1; have hs1 := hm1.1.size)
      | (at_builtin; refine wpList_app8 rfl (.tmp 31) (.tmp 35) 22 rfl base 5 Tryd.underlying22 info8 A1 (nn + 1) c1 (l ++ [dg (n / 16 % 16)]) [dg (n % 16)] (by simp [HN.out]) rfl _ _ ho1 1 1 (nn + 1 + 1) rfl rfl (by simp [cb, dig_get _ z3]) rfl (by omega) (by omega) ?_; intro A2 c2 w2 ho2 hm2; have hs2 := hm2.1.size))
    go_ret
    rw [HD.out]
    have e1 : l ++ [dg (n / 16 % 16), dg (n % 16)] = ((l ++ [dg (n / 16 % 16)]) ++ [dg (n % 16)]) := by simp
    rw [e1]
    exact ⟨A2, nn + 1 + 1, c2, rfl, by simp [HN.out], ho2, (hm1).trans hm2⟩
  · have HD := Lib.hid (show hx n = [dg (n / 256 % 16), dg (n / 16 % 16), dg (n % 16)] by unfold hx; rw [if_neg (by omega), if_pos (by omega)])
    go_enter Tryd.func88, Tryd.ntmps88
    go_wp2_with (first
      | (at_builtin; refine wpList_app8 rfl (.tmp 15) (.tmp 20) 22 rfl base 5 Tryd.underlying22 info8 A nn c l [dg (n / 256 % 16)] HN.out rfl _ _ ho 1 1 (nn + 1) rfl rfl (by simp [cb, dig_get _ z1]) rfl (by omega) hbase ?_; intro A1 c1 w1 ho1 hm1; have hs1 := hm1.1.size)
      | (at_builtin; refine wpList_app8 rfl (.tmp 24) (.tmp 29) 22 rfl base 5 Tryd.underlying22 info8 A1 (nn + 1) c1 (l ++ [dg (n / 256 % 16)]) [dg (n / 16 % 16)] (by simp [HN.out]) rfl _ _ ho1 1 1 (nn + 1 + 1) rfl rfl (by simp [cb, dig_get _ z2]) rfl (by omega) (by omega) ?_; intro A2 c2 w2 ho2 hm2; have hs2 := hm2.1.size)
      | (at_builtin; refine wpList_app8 rfl (.tmp 31) (.tmp 35) 22 rfl base 5 Tryd.underlying22 info8 A2 (nn + 1 + 1) c2 ((l ++ [dg (n / 256 % 16)]) ++ [dg (n / 16 % 16)]) [dg (n % 16)] (by simp [HN.out]) rfl _ _ ho2 1 1 (nn + 1 + 1 + 1) rfl rfl (by simp [cb, dig_get _ z3]) rfl (by omega) (by omega) ?_; intro A3 c3 w3 ho3 hm3; have hs3 := hm3.1.size))
    go_ret
    rw [HD.out]
    have e1 : l ++ [dg (n / 256 % 16), dg (n / 16 % 16), dg (n % 16)] = (((l ++ [dg (n / 256 % 16)]) ++ [dg (n / 16 % 16)]) ++ [dg (n % 16)]) := by simp
    rw [e1]
    exact ⟨A3, nn + 1 + 1 + 1, c3, rfl, by simp [HN.out], ho3, ((hm1).trans hm2).trans hm3⟩
  · have HD := Lib.hid (show hx n = [dg (n / 4096), dg (n / 256 % 16), dg (n / 16 % 16), dg (n % 16)] by unfold hx; rw [if_pos (by omega)])
    go_enter Tryd.func88, Tryd.ntmps88
    go_wp2_with (first
      | (at_builtin; refine wpList_app8 rfl (.tmp 7) (.tmp 11) 22 rfl base 5 Tryd.underlying22 info8 A nn c l [dg (n / 4096)] HN.out rfl _ _ ho 1 1 (nn + 1) rfl rfl (by simp [cb, dig_get _ z0]) rfl (by omega) hbase ?_; intro A1 c1 w1 ho1 hm1; have hs1 := hm1.1.size)
      | (at_builtin; refine wpList_app8 rfl (.tmp 15) (.tmp 20) 22 rfl base 5 Tryd.underlying22 info8 A1 (nn + 1) c1 (l ++ [dg (n / 4096)]) [dg (n / 256 % 16)] (by simp [HN.out]) rfl _ _ ho1 1 1 (nn + 1 + 1) rfl rfl (by simp [cb, dig_get _ z1]) rfl (by omega) (by omega) ?_; intro A2 c2 w2 ho2 hm2; have hs2 := hm2.1.size)
      | (at_builtin; refine wpList_app8 rfl (.tmp 24) (.tmp 29) 22 rfl base 5 Tryd.underlying22 info8 A2 (nn + 1 + 1) c2 ((l ++ [dg (n / 4096)]) ++ [dg (n / 256 % 16)]) [dg (n / 16 % 16)] (by simp [HN.out]) rfl _ _ ho2 1 1 (nn + 1 + 1 + 1) rfl rfl (by simp [cb, dig_get _ z2]) rfl (by omega) (by omega) ?_; intro A3 c3 w3 ho3 hm3; have hs3 := hm3.1.size)
      | (at_builtin; refine wpList_app8 rfl (.tmp 31) (.tmp 35) 22 rfl base 5 Tryd.underlying22 info8 A3 (nn + 1 + 1 + 1) c3 (((l ++ [dg (n / 4096)]) ++ [dg (n / 256 % 16)]) ++ [dg (n / 16 % 16)]) [dg (n % 16)] (by simp [HN.out]) rfl _ _ ho3 1 1 (nn + 1 + 1 + 1 + 1) rfl rfl (by simp [cb, dig_get _ z3]) rfl (by omega) (by omega) ?_; intro A4 c4 w4 ho4 hm4; have hs4 := hm4.1.size))
    go_ret
    rw [HD.out]
    have e1 : l ++ [dg (n / 4096), dg (n / 256 % 16), dg (n / 16 % 16), dg (n % 16)] = ((((l ++ [dg (n / 4096)]) ++ [dg (n / 256 % 16)]) ++ [dg (n / 16 % 16)]) ++ [dg (n % 16)]) := by simp
    rw [e1]
    exact ⟨A4, nn + 1 + 1 + 1 + 1, c4, rfl, by simp [HN.out], ho4, (((hm1).trans hm2).trans hm3).trans hm4⟩

end Go.Proofs.YtjepkkfpgmgnjaaDoor
