/-
  Contract of spec.split: a string divided at a byte. Condition: the length (2^20).
-/
import Derived.Test.YtebnhhifodmkkaaKit
namespace Go.Proofs.Ytebnhhifodmkkaa
open Go.RowKit
set_option linter.unusedVariables false

/-- a list of bytes, divided at a byte -/
def splitL (c : UInt8) : List UInt8 → List (List UInt8)
  | [] => [[]]
  | x :: xs => if x = c then [] :: splitL c xs else match splitL c xs with
    | [] => [[x]]
    | y :: ys => (x :: y) :: ys
theorem splitL_ne (c : UInt8) (s : List UInt8) : splitL c s ≠ [] := by
  cases s with
  | nil => simp [splitL]
  | cons x s =>
    simp only [splitL]
    split
    · simp
    · split <;> simp
theorem splitL_none {c : UInt8} {s : List UInt8} (h : c ∉ s) : splitL c s = [s] := by
  induction s with
  | nil => rfl
  | cons x s ih =>
    simp only [List.mem_cons, not_or] at h
    simp only [splitL]
    rw [if_neg (fun e => h.1 e.symm), ih h.2]
theorem splitL_at {c : UInt8} {a b : List UInt8} (h : c ∉ a) : splitL c (a ++ c :: b) = a :: splitL c b := by
  induction a with
  | nil => simp [splitL]
  | cons x a ih =>
    simp only [List.mem_cons, not_or] at h
    simp only [List.cons_append, splitL]
    rw [if_neg (fun e => h.1 e.symm), ih h.2]

/-- the cells of a list of strings -/
def css (ls : List (List UInt8)) : List Value := ls.map fun l => .string ⟨l.toArray⟩
theorem css_length (ls : List (List UInt8)) : (css ls).length = ls.length := by simp [css]
theorem css_get (ls : List (List UInt8)) (j : Nat) (h : j < ls.length) : (css ls)[j]? = some (.string ⟨(ls[j]).toArray⟩) := by simp [css, h]

theorem own_form {w : World} {base : Nat} {e : TypeId} {v : Value} {k : Nat} {zs : List Value} (h : w.ownsRow base e 1 v k zs) : ∃ A c, v = .slice A k c := by
  rcases h.2 with ⟨rfl, rfl⟩ | ⟨g, cap, cur, rfl, _⟩
  · exact ⟨none, 0, rfl⟩
  · exact ⟨_, _, rfl⟩

/-- append of one element of one cell -/
theorem wpList_app1 {P : Program} {w : World} {ops : Array Oper} {rest : List Oper} {o : Oper} {a : Act} {Q : Exit → Act → World → Prop} (hgd : o.guard = none) (s x : Operand) (t : TypeId)
    (ho : o.op = .call { callee := .builtin .append, args := #[s, x], argTypes := #[t, t] })
    (base : Nat) (e : TypeId) (z : Value) (bytes : Nat) (ht : P.underlying t = some (.slice e)) (hinfo : (P.info? e).map (fun i => (i.zero, i.size, i.bytes)) = some (some z, 1, bytes)) (hz : z.cells.size = 1)
    (v : Value) (n : Nat) (xs : List Value) (hs : a.eval s = v) (hown : w.ownsRow base e 1 v n xs) (k : Nat) (u : Value) (hx : a.eval x = .slice (some ⟨k, 0, none⟩) 1 1) (hu : w.cell? ⟨k, 0, none⟩ = some u) (h1 : u.oneCell' = true)
    (hsz : (n + 1) * bytes ≤ 140737488355328) (hn : n ≤ 140737488355328) (hbase : base ≤ w.heap.size)
    (h : ∀ A' c' w', w'.ownsRow base e 1 (.slice A' (n + 1) c') (n + 1) (xs ++ [u]) → w.grownBy w' v.ownBlock → wpList P ops Q rest (a.put o.dst (.slice A' (n + 1) c')) w') : wpList P ops Q (o :: rest) a w := by
  obtain ⟨i, hi, hz0, hz1, hz2⟩ := info_parts hinfo
  refine wpList_append_own_at w hgd s x t ho base e i z 1 bytes ht hi hz0 hz1 hz2 hz (by decide) v n xs hs hown ⟨k, 0, none⟩ 1 1 [u] hx rfl ?_ ?_ ?_ hsz hbase ?_
  · intro j y hy
    rcases j with _ | j
    · simp at hy; subst hy; simpa [Addr.add] using hu
    · simp at hy
  · intro y hy; simp at hy; subst hy; exact h1
  · simp only [maxLen]; omega
  · intro v' w' h2 h3 _ _
    obtain ⟨A', c', rfl⟩ := own_form h2
    exact h A' c' w' h2 h3

theorem infoS : (Try.prog.info? 9).map (fun i => (i.zero, i.size, i.bytes)) = some (some (.string ⟨#[]⟩), 1, 16) := by kernel_rfl

/-- a slice of strings of the call's own -/
def StrsBack (eS : TypeId) (w : World) (ls : List (List UInt8)) (e : Ending) (w' : World) : Prop :=
  ∃ A n c, e = .returned (.slice A n c) ∧ ls.length = n ∧ w'.ownsRow w.heap.size eS 1 (.slice A n c) n (css ls) ∧ Below w.heap.size w w'

set_option maxHeartbeats 1000000 in
theorem split_any (s : List UInt8) (ch : UInt8) (w : World) (hs : s.length ≤ 1048576) :
    Calls Try.prog 39 #[.string ⟨s.toArray⟩, .int .u8 (ch.toNat : Int)] w fun e w' => StrsBack 9 w (splitL ch s) e w' := by
  go_enter Try.func39, Try.ntmps39
  go_wp2
  go_loopw [7, 6, 5] (fun i f v wr => ∃ (k fr : Nat) (ls : List (List UInt8)) (A : Option Addr) (c : Nat), k ≤ s.length + 1 ∧ fr ≤ k ∧ ls.length ≤ k ∧ i = .int .i64 k ∧ f = .int .i64 fr ∧ v = .slice A ls.length c ∧
      wr.ownsRow w.heap.size 9 1 (.slice A ls.length c) ls.length (css ls) ∧ Below w.heap.size w wr ∧
      Hid ((k = s.length + 1 → ls = splitL ch s) ∧ (k ≤ s.length → ls ++ splitL ch (s.drop fr) = splitL ch s ∧ ch ∉ (s.take k).drop fr))) (fun i _ _ _ => s.length + 1 - (intOf i).toNat)
  case atStart => exact ⟨0, 0, [], none, 0, Nat.zero_le _, Nat.le_refl _, Nat.le_refl _, rfl, rfl, rfl, World.ownsRow_nil _ _ _ _, Below.refl _ _, (fun h => by omega), (fun _ => ⟨by simp, by simp⟩)⟩
  case round =>
    obtain ⟨k, fr, ls, A, c, hk, hfr, hll, rfl, rfl, rfl, ho, hb, HR⟩ := hrel
    have hbs := hb.size
    by_cases hle : k ≤ s.length
    · obtain ⟨hr1, hr2⟩ := HR.out.2 hle
      by_cases heq : k = s.length
      · subst heq
        have HF := Lib.hid (show ls ++ [s.drop fr] = splitL ch s by
          rw [← hr1]
          rw [List.take_of_length_le (Nat.le_refl _)] at hr2
          rw [splitL_none hr2])
        have h1 : ({ data := s.toArray } : ByteArray).extract fr s.length = ⟨(s.drop fr).toArray⟩ := by
          rw [ba_cut, List.take_of_length_le (Nat.le_refl _)]
        clear hr1 hr2 HR
        go_wp2_with (at_builtin; refine wpList_app1 rfl (.tmp 25) (.tmp 30) 51 rfl w.heap.size 9 _ 16 Try.underlying51 infoS rfl _ ls.length (css ls) rfl (ho.alloc _) wr.heap.size (.string ⟨(s.drop fr).toArray⟩) rfl ?c1 rfl ?c2 ?c3 ?c4 ?_)
        case c1 => simp
        case c2 => omega
        case c3 => omega
        case c4 => simp; omega
        intro A2 c2 w2 ho2 hg2
        have hb2 : Below w.heap.size w w2 := (hb.alloc hb.size _).grown hg2 (by simp; omega) fun q hq => (ho.lt q hq).1
        clear hg2
        go_wp2
        go_roundw
        case rel =>
          refine ⟨s.length + 1, s.length + 1, ls ++ [s.drop fr], A2, c2, Nat.le_refl _, Nat.le_refl _, by simp; omega, by go_num, by go_num, by simp, ?_, hb2, (fun _ => HF.out), (fun h => by omega)⟩
          have e1 : css (ls ++ [s.drop fr]) = css ls ++ [.string ⟨(s.drop fr).toArray⟩] := by simp [css]
          rw [e1]
          simpa using ho2
        case measure => simp [intOf]
      · have hlt : k < s.length := by omega
        have t1 : ((k : Int) == (s.length : Int)) = false := by simp; omega
        by_cases he : s[k] = ch
        · have t2 : (((({ data := s.toArray } : ByteArray)[k]'hlt).toNat : Int) == (ch.toNat : Int)) = true := u8eq he
          have HF := Lib.hid (show ls ++ [(s.take k).drop fr] ++ splitL ch (s.drop (k + 1)) = splitL ch s by
            rw [← hr1]
            have e1 : s.drop fr = (s.take k).drop fr ++ ch :: s.drop (k + 1) := by
              have e2 : s = s.take k ++ ch :: s.drop (k + 1) := by
                rw [← he, List.getElem_cons_drop]
                exact (List.take_append_drop k s).symm
              conv => lhs; rw [e2]
              rw [List.drop_append_of_le_length (by simp; omega)]
            rw [e1, splitL_at hr2]
            simp)
          have h1 : ({ data := s.toArray } : ByteArray).extract fr k = ⟨((s.take k).drop fr).toArray⟩ := ba_cut s fr k
          have hle2 : (fr : Int) ≤ (k : Int) := by omega
          clear hr1 hr2 HR heq
          go_wp2_with (at_builtin; refine wpList_app1 rfl (.tmp 25) (.tmp 30) 51 rfl w.heap.size 9 _ 16 Try.underlying51 infoS rfl _ ls.length (css ls) rfl (ho.alloc _) wr.heap.size (.string ⟨((s.take k).drop fr).toArray⟩) rfl ?c1 rfl ?c2 ?c3 ?c4 ?_)
          case c1 => simp
          case c2 => omega
          case c3 => omega
          case c4 => simp; omega
          intro A2 c2 w2 ho2 hg2
          have hb2 : Below w.heap.size w w2 := (hb.alloc hb.size _).grown hg2 (by simp; omega) fun q hq => (ho.lt q hq).1
          clear hg2
          go_wp2
          go_roundw
          case rel =>
            refine ⟨k + 1, k + 1, ls ++ [(s.take k).drop fr], A2, c2, by omega, Nat.le_refl _, by simp; omega, by go_num, by go_num, by simp, ?_, hb2, (fun h => by omega), (fun _ => ⟨HF.out, by rw [List.drop_of_length_le (by simp; omega)]; simp⟩)⟩
            have e1 : css (ls ++ [(s.take k).drop fr]) = css ls ++ [.string ⟨((s.take k).drop fr).toArray⟩] := by simp [css]
            rw [e1]
            simpa using ho2
          case measure => simp [intOf]; omega
        · have t2 : (((({ data := s.toArray } : ByteArray)[k]'hlt).toNat : Int) == (ch.toNat : Int)) = false := u8ne he
          have HF := Lib.hid (show ls ++ splitL ch (s.drop fr) = splitL ch s ∧ ch ∉ (s.take (k + 1)).drop fr by
            refine ⟨hr1, ?_⟩
            rw [List.take_succ_eq_append_getElem hlt, List.drop_append_of_le_length (by simp; omega)]
            simp only [List.mem_append, not_or]
            exact ⟨hr2, by simpa using fun e => he e.symm⟩)
          clear hr1 hr2 HR heq
          go_wp2
          go_roundw
          case rel => exact ⟨k + 1, fr, ls, A, c, by omega, by omega, by omega, by go_num, rfl, rfl, ho, hb, (fun h => by omega), (fun _ => HF.out)⟩
          case measure => simp [intOf]; omega
    · have HF := Lib.hid (HR.out.1 (by omega))
      clear HR
      go_wp2
      go_ret
      refine ⟨A, ls.length, c, rfl, by rw [← HF.out], ?_, hb⟩
      rw [← HF.out]
      exact ho
end Go.Proofs.Ytebnhhifodmkkaa
