/-
  Contracts of spec.digit, spec.small and spec.pieces: where spec.pieces says yes, the string is the text of the bytes. Condition: the length (2^47).
-/
import Derived.Test.YtemfbjkcemhkjaaMacForm
import Derived.Test.YtemfbjkcemhkjaaBase
namespace Go.Proofs.Ytemfbjkcemhkjaa
open Go.RowKit
set_option linter.unusedVariables false

/-- the value of a hexadecimal digit; 99: it is none -/
def dgv (c : UInt8) : Nat := if 48 ≤ c.toNat ∧ c.toNat ≤ 57 then c.toNat - 48 else if 97 ≤ c.toNat ∧ c.toNat ≤ 102 then c.toNat - 87 else if 65 ≤ c.toNat ∧ c.toNat ≤ 70 then c.toNat - 55 else 99
theorem ret_nat {a : Int} {b : Nat} (h : a = (b : Int)) : Ending.returned (.int .i64 a) = .returned (.int .i64 (b : Int)) := by rw [h]
set_option maxHeartbeats 1000000 in
theorem digit_any (c : UInt8) (w : World) : Calls Try.prog 21 #[.int .u8 (c.toNat : Int)] w fun e w' => e = .returned (.int .i64 (dgv c : Int)) ∧ w = w' := by
  have hc : c.toNat < 256 := c.toNat_lt
  have HD := Lib.hid (show dgv c = if 48 ≤ c.toNat ∧ c.toNat ≤ 57 then c.toNat - 48 else if 97 ≤ c.toNat ∧ c.toNat ≤ 102 then c.toNat - 87 else if 65 ≤ c.toNat ∧ c.toNat ≤ 70 then c.toNat - 55 else 99 from rfl)
  generalize dgv c = v at HD ⊢
  generalize c.toNat = k at hc HD ⊢
  have hcs : k < 48 ∨ (48 ≤ k ∧ k ≤ 57) ∨ (58 ≤ k ∧ k < 65) ∨ (65 ≤ k ∧ k ≤ 70) ∨ (71 ≤ k ∧ k < 97) ∨ (97 ≤ k ∧ k ≤ 102) ∨ 103 ≤ k := by omega
  rcases hcs with h | ⟨h, h'⟩ | ⟨h, h'⟩ | ⟨h, h'⟩ | ⟨h, h'⟩ | ⟨h, h'⟩ | h
  all_goals
    go_enter Try.func21, Try.ntmps21
    go_wp2
    go_ret
    refine ⟨ret_nat ?_, rfl⟩
    rw [HD.out]
    repeat (first | rw [if_pos (by omega)] | rw [if_neg (by omega)])
    try omega

/-- the value of a small hexadecimal digit; 99: it is none -/
def smv (c : UInt8) : Nat := if 65 ≤ c.toNat ∧ c.toNat ≤ 70 then 99 else dgv c
theorem smv_dg {c : UInt8} (h : smv c < 16) : c = dg (smv c) := by
  have : ∀ c : Fin 256, smv (UInt8.ofNat c.val) < 16 → (UInt8.ofNat c.val) = dg (smv (UInt8.ofNat c.val)) := by decide +kernel
  have := this ⟨c.toNat, c.toNat_lt⟩
  simpa using this (by simpa using h)
theorem smv_le (c : UInt8) : smv c ≤ 99 := by
  have : ∀ c : Fin 256, smv (UInt8.ofNat c.val) ≤ 99 := by decide +kernel
  simpa using this ⟨c.toNat, c.toNat_lt⟩
set_option maxHeartbeats 1000000 in
theorem small_any (c : UInt8) (w : World) : Calls Try.prog 19 #[.int .u8 (c.toNat : Int)] w fun e w' => e = .returned (.int .i64 (smv c : Int)) ∧ w = w' := by
  have hc : c.toNat < 256 := c.toNat_lt
  have hcs : c.toNat < 65 ∨ (65 ≤ c.toNat ∧ c.toNat ≤ 70) ∨ 71 ≤ c.toNat := by omega
  have HS := Lib.hid (show smv c = if 65 ≤ c.toNat ∧ c.toNat ≤ 70 then 99 else dgv c from rfl)
  rcases hcs with h | ⟨h, h'⟩ | h
  · go_enter Try.func19, Try.ntmps19
    go_wp2_with fail
    refine (digit_any c _).mono ?_
    rintro e w' ⟨rfl, rfl⟩
    go_wp2
    go_ret
    exact ⟨ret_nat (by rw [HS.out, if_neg (by omega)]), rfl⟩
  · go_enter Try.func19, Try.ntmps19
    go_wp2
    go_ret
    exact ⟨ret_nat (by rw [HS.out, if_pos (by omega)]; rfl), rfl⟩
  · go_enter Try.func19, Try.ntmps19
    go_wp2_with fail
    refine (digit_any c _).mono ?_
    rintro e w' ⟨rfl, rfl⟩
    go_wp2
    go_ret
    exact ⟨ret_nat (by rw [HS.out, if_neg (by omega)]), rfl⟩

theorem hex2_16 (n : Nat) (h : n < 16) : hex2 (UInt8.ofNat (16 * n)) = [dg n, 48] := by
  have : ∀ n : Fin 16, hex2 (UInt8.ofNat (16 * n.val)) = [dg n.val, 48] := by decide +kernel
  exact this ⟨n, h⟩
theorem hex2_low (x : UInt8) (n : Nat) (h : n < 16) (hx : x.toNat % 16 = 0) : ∃ a, hex2 x = [a, 48] ∧ hex2 (UInt8.ofNat (x.toNat + n)) = [a, dg n] := by
  refine ⟨dg (x.toNat / 16), ?_, ?_⟩
  · simp only [hex2, hx]; rfl
  · have hlt := x.toNat_lt
    have e : (UInt8.ofNat (x.toNat + n)).toNat = x.toNat + n := by simp; omega
    simp only [hex2, e]
    rw [show (x.toNat + n) / 16 = x.toNat / 16 by omega, show (x.toNat + n) % 16 = n by omega]
theorem low_16 (n : Nat) (h : n < 16) : (UInt8.ofNat (16 * n)).toNat = 16 * n := by simp; omega
theorem low_add (x : UInt8) (n : Nat) (h : n < 16) (hx : x.toNat % 16 = 0) : (UInt8.ofNat (x.toNat + n)).toNat = x.toNat + n := by
  have hlt := x.toNat_lt
  simp; omega

/-- what has been read of a string in pieces of 'each' digits: the bytes so far -/
def PInv (sign : UInt8) (b each : Nat) (s : List UInt8) (k : Nat) (out : List UInt8) : Prop :=
  out.length = k / (each + 1) * b + (k % (each + 1) + 1) / 2 ∧
  (k % (each + 1) = 0 → k ≠ 0 → s.take k = tx sign b out ++ [sign]) ∧
  (k % (each + 1) % 2 = 0 → k % (each + 1) ≠ 0 → s.take k = tx sign b out) ∧
  (k % (each + 1) % 2 = 1 → ∃ i x, out = i ++ [x] ∧ x.toNat % 16 = 0 ∧ s.take k ++ [48] = tx sign b out)
/-- what spec.pieces gives -/
def PPost (sign : UInt8) (b : Nat) (s : List UInt8) (w : World) (e : Ending) (w' : World) : Prop :=
  ∃ A n c r, e = .returned (.tuple #[.slice A n c, .bool r]) ∧ Below w.heap.size w w' ∧ (r = true → ∃ out, out.length = n ∧ s = tx sign b out ∧ w'.ownsRow w.heap.size 5 1 (.slice A n c) out.length (cb out))

theorem pinv2_zero (sign : UInt8) (s : List UInt8) : PInv sign 1 2 s 0 [] := ⟨rfl, fun _ h => absurd rfl h, fun _ h => absurd rfl h, fun h => by simp at h⟩
set_option maxHeartbeats 4000000 in
theorem pinv2_new {sign : UInt8} {s out : List UInt8} {k n : Nat} (h : PInv sign 1 2 s k out) (hk : k < s.length) (hn : n < 16) (hs : s[k] = dg n) (hr : k % 3 % 2 = 0) (hne : k % 3 ≠ 2) : PInv sign 1 2 s (k + 1) (out ++ [UInt8.ofNat (16 * n)]) := by
  obtain ⟨h1, h2, h3, h4⟩ := h
  simp only [Nat.reduceAdd] at h1 h2 h3 h4
  have ht : s.take (k + 1) = s.take k ++ [dg n] := by rw [List.take_succ_eq_append_getElem hk, hs]
  refine ⟨by simp only [Nat.reduceAdd, List.length_append, List.length_singleton]; omega, fun a => by simp only [Nat.reduceAdd] at a; omega, fun a _ => by simp only [Nat.reduceAdd] at a; omega, fun _ => ⟨out, _, rfl, by rw [low_16 n hn]; omega, ?_⟩⟩
  rw [ht, tx_snoc, hex2_16 n hn]
  rcases Nat.eq_zero_or_pos (k % 3) with h0 | h0
  · rcases Nat.eq_zero_or_pos k with hk0 | hk0
    · have : out = [] := List.length_eq_zero_iff.mp (by subst hk0; simpa using h1)
      subst this; subst hk0
      simp [tx_nil]
    · rw [h2 h0 (by omega), if_pos ⟨by omega, by omega⟩]
      simp
  · rw [h3 hr (by omega), if_neg (by omega)]
    simp
set_option maxHeartbeats 4000000 in
theorem pinv2_low {sign : UInt8} {s i : List UInt8} {x : UInt8} {k n : Nat} (h : PInv sign 1 2 s k (i ++ [x])) (hk : k < s.length) (hn : n < 16) (hs : s[k] = dg n) (hr : k % 3 % 2 = 1) : PInv sign 1 2 s (k + 1) (i ++ [UInt8.ofNat (x.toNat + n)]) := by
  obtain ⟨h1, h2, h3, h4⟩ := h
  simp only [Nat.reduceAdd] at h1 h2 h3 h4
  obtain ⟨i', x', e1, hx, e2⟩ := h4 hr
  obtain ⟨rfl, e3⟩ := List.append_inj' e1 rfl
  obtain rfl : x = x' := by simpa using e3
  have ht : s.take (k + 1) = s.take k ++ [dg n] := by rw [List.take_succ_eq_append_getElem hk, hs]
  obtain ⟨a, ea, eb⟩ := hex2_low x n hn hx
  rw [tx_snoc, ea] at e2
  have e4 : s.take k = tx sign 1 i ++ ((if 0 < i.length ∧ i.length % 1 = 0 then [sign] else []) ++ [a]) := by
    have : s.take k ++ [48] = (tx sign 1 i ++ ((if 0 < i.length ∧ i.length % 1 = 0 then [sign] else []) ++ [a])) ++ [48] := by rw [e2]; simp
    exact (List.append_inj' this rfl).1
  simp only [List.length_append, List.length_singleton] at h1
  refine ⟨by simp only [Nat.reduceAdd, List.length_append, List.length_singleton]; omega, fun a => by simp only [Nat.reduceAdd] at a; omega, fun _ _ => ?_, fun a => by simp only [Nat.reduceAdd] at a; omega⟩
  rw [ht, e4, tx_snoc, eb]
  simp
set_option maxHeartbeats 4000000 in
theorem pinv2_sign {sign : UInt8} {s out : List UInt8} {k : Nat} (h : PInv sign 1 2 s k out) (hk : k < s.length) (hs : s[k] = sign) (hr : k % 3 = 2) : PInv sign 1 2 s (k + 1) out := by
  obtain ⟨h1, h2, h3, h4⟩ := h
  simp only [Nat.reduceAdd] at h1 h2 h3 h4
  have ht : s.take (k + 1) = s.take k ++ [sign] := by rw [List.take_succ_eq_append_getElem hk, hs]
  refine ⟨by simp only [Nat.reduceAdd]; omega, fun _ _ => ?_, fun a b => by simp only [Nat.reduceAdd] at a b; omega, fun a => by simp only [Nat.reduceAdd] at a; omega⟩
  rw [ht, h3 (by omega) (by omega)]
theorem pinv2_end {sign : UInt8} {s out : List UInt8} (h : PInv sign 1 2 s s.length out) (hr : s.length % 3 = 2) : s = tx sign 1 out := by
  have := h.2.2.1 (by simp only [Nat.reduceAdd]; omega) (by simp only [Nat.reduceAdd]; omega)
  rwa [List.take_of_length_le (Nat.le_refl _)] at this

set_option maxHeartbeats 2000000 in
theorem pieces2_any (s : List UInt8) (sign : UInt8) (w : World) (hs : s.length ≤ 140737488351232) :
    Calls Try.prog 15 #[.string ⟨s.toArray⟩, .int .u8 (sign.toNat : Int), .int .i64 2] w fun e w' => PPost sign 1 s w e w' := by
  go_enter Try.func15, Try.ntmps15
  go_wp2
  go_loopw [9, 8] (fun i v wr => ∃ (k : Nat) (l : List UInt8) (A' : Option Addr) (c' : Nat), k ≤ s.length ∧ i = .int .i64 k ∧ v = .slice A' l.length c' ∧ l.length ≤ k + 1 ∧ wr.ownsRow w.heap.size 5 1 (.slice A' l.length c') l.length (cb l) ∧ Below w.heap.size w wr ∧ Hid (PInv sign 1 2 s k l)) (fun i _ _ => s.length - (intOf i).toNat)
  case atStart => exact ⟨0, [], none, 0, Nat.zero_le _, rfl, rfl, by decide, World.ownsRow_nil _ _ _ _, Below.refl _ _, pinv2_zero sign s⟩
  case round =>
    obtain ⟨k, l, A', c', hk, rfl, rfl, hl, ho, hb, HI⟩ := hrel
    have hbs := hb.size
    by_cases hlt : k < s.length
    · have hix : ({ data := s.toArray } : ByteArray)[k]'hlt = s[k] := rfl
      by_cases hr : k % 3 = 2
      · have t1 : (((k : Int) % 3) == 2) = true := by simp; omega
        by_cases hsg : s[k] = sign
        · have t2 : (((({ data := s.toArray } : ByteArray)[k]'hlt).toNat : Int) != (sign.toNat : Int)) = false := u8eqn hsg
          have HS := Lib.hid hsg
          have HR := Lib.hid hr
          clear hsg hr hix
          by_cases hla : k = s.length - 1
          · have t3 : ((k : Int) == (s.length : Int) - 1) = true := by simp; omega
            clear hla
            go_wp2
            go_ret2
            exact ⟨none, 0, 0, false, rfl, hb, fun h => by cases h⟩
          · have t3 : ((k : Int) == (s.length : Int) - 1) = false := by simp; omega
            clear hla
            go_wp2
            go_roundw
            case rel => exact ⟨k + 1, l, A', c', by omega, by go_num, rfl, by omega, ho, hb, pinv2_sign HI.out hlt HS.out HR.out⟩
            case measure => simp [intOf]; omega
        · have t2 : (((({ data := s.toArray } : ByteArray)[k]'hlt).toNat : Int) != (sign.toNat : Int)) = true := u8nen hsg
          clear hsg hr hix
          go_wp2
          go_ret2
          exact ⟨none, 0, 0, false, rfl, hb, fun h => by cases h⟩
      · have t1 : (((k : Int) % 3) == 2) = false := by simp; omega
        have hsm := smv_le s[k]
        by_cases hn : smv s[k] < 16
        · have HS := Lib.hid (smv_dg hn)
          have HR := Lib.hid hr
          clear hr
          by_cases hev : k % 3 % 2 = 0
          · have t3 : (((k : Int) % 3 % 2) == 0) = true := by simp; omega
            have HEV := Lib.hid hev
            clear hev
            go_wp2_with fail
            refine (small_any s[k] _).mono ?_
            rintro e w' ⟨rfl, rfl⟩
            have HP := Lib.hid (pinv2_new HI.out hlt hn HS.out HEV.out HR.out)
            generalize smv s[k] = nn at hn HP hsm ⊢
            have e16 := low_16 nn hn
            have E16 := Lib.hid (show cb [UInt8.ofNat (16 * nn)] = [.int .u8 (16 * (nn : Int))] by simp only [cb, List.map, e16]; simp)
            clear e16
            go_wp2_with (at_builtin; refine wpList_app rfl (.tmp 46) (.tmp 50) 22 rfl w.heap.size 5 Try.underlying22 info8 _ l (l.length + 1) rfl ?c0 _ 1 1 [UInt8.ofNat (16 * nn)] rfl rfl ?c1 rfl ?c2 ?c3 ?_)
            case c0 => exact ho.alloc _
            case c1 => exact Rd.new _ _ _ _ (by rw [E16.out])
            case c2 => omega
            case c3 => simp; omega
            intro A2 c2 w2 ho2 hg2 hat2
            have hb2 : Below w.heap.size w w2 := (hb.alloc hb.size _).grown hg2 (by simp; omega) fun q hq => (ho.lt q hq).1
            clear hg2 hat2
            go_wp2
            go_roundw
            case rel => exact ⟨k + 1, l ++ [UInt8.ofNat (16 * nn)], A2, c2, by omega, by go_num, by simp, by simp; omega, by simpa using ho2, hb2, HP.out⟩
            case measure => simp [intOf]; omega
          · have t3 : (((k : Int) % 3 % 2) == 0) = false := by simp; omega
            obtain ⟨i, x, rfl, hx, _⟩ := HI.out.2.2.2 (by simp only [Nat.reduceAdd]; omega)
            have hx0 : x.toNat ≤ 240 := by have := x.toNat_lt; omega
            have HEV := Lib.hid (show k % 3 % 2 = 1 by omega)
            have HX := Lib.hid hx
            clear hev hx
            have hpos : 0 < (i ++ [x]).length := by simp
            obtain ⟨g, cap, hv, _, _⟩ := ho.form hpos
            have hA : A' = some ⟨g, 0, none⟩ := by injection hv
            subst hA
            have c0 := own_cell ho (j := i.length) (by simp) rfl
            have f0 := own_frozen ho i.length rfl
            have ex : (i ++ [x])[i.length]'(by simp) = x := by simp
            rw [ex] at c0
            have hlen : (i ++ [x]).length = i.length + 1 := by simp
            rw [hlen] at hl
            rw [hlen]
            clear hv ex hlen hpos
            go_wp2_with fail
            refine (small_any s[k] _).mono ?_
            rintro e w' ⟨rfl, rfl⟩
            have HP := Lib.hid (pinv2_low HI.out hlt hn HS.out HEV.out)
            generalize smv s[k] = nn at hn HP hsm ⊢
            have la := Lib.hid (low_add x nn hn HX.out)
            go_wp2
            go_roundw
            case rel =>
              have R := own_store ho (j := i.length) (UInt8.ofNat (x.toNat + nn)) rfl
              have e1 : (i ++ [x]).set i.length (UInt8.ofNat (x.toNat + nn)) = i ++ [UInt8.ofNat (x.toNat + nn)] := by rw [List.set_append_right _ _ (Nat.le_refl _)]; simp
              rw [e1, la.out] at R
              refine ⟨k + 1, i ++ [UInt8.ofNat (x.toNat + nn)], some ⟨g, 0, none⟩, c', by omega, by go_num, by simp, by simp; omega, ?_, hb.setCell (p := ⟨g, i.length, none⟩) ?_ _, HP.out⟩
              · simpa using R
              · exact (ho.lt g rfl).1
            case measure => simp [intOf]; omega
        · have t2 : decide ((15 : Int) < (smv s[k] : Int)) = true := by simp; omega
          clear hr
          go_wp2_with fail
          refine (small_any s[k] _).mono ?_
          rintro e w' ⟨rfl, rfl⟩
          go_wp2
          go_ret2
          exact ⟨none, 0, 0, false, rfl, hb, fun h => by cases h⟩
    · obtain rfl : k = s.length := by omega
      by_cases hr : s.length % 3 = 2
      · have t1 : (((s.length : Int) % 3) == 2) = true := by simp; omega
        have HE := Lib.hid (pinv2_end HI.out hr)
        clear hr
        go_wp2
        go_quiet (fail)
        go_wp2
        go_ret2
        exact ⟨A', l.length, c', true, rfl, below_drewN hb _, fun _ => ⟨l, rfl, HE.out, ho⟩⟩
      · have t1 : (((s.length : Int) % 3) == 2) = false := by simp; omega
        clear hr
        go_wp2
        go_quiet (fail)
        go_wp2
        go_ret2
        exact ⟨A', l.length, c', false, rfl, below_drewN hb _, fun h => by cases h⟩

theorem pinv4_zero (sign : UInt8) (s : List UInt8) : PInv sign 2 4 s 0 [] := ⟨rfl, fun _ h => absurd rfl h, fun _ h => absurd rfl h, fun h => by simp at h⟩
set_option maxHeartbeats 4000000 in
theorem pinv4_new {sign : UInt8} {s out : List UInt8} {k n : Nat} (h : PInv sign 2 4 s k out) (hk : k < s.length) (hn : n < 16) (hs : s[k] = dg n) (hr : k % 5 % 2 = 0) (hne : k % 5 ≠ 4) : PInv sign 2 4 s (k + 1) (out ++ [UInt8.ofNat (16 * n)]) := by
  obtain ⟨h1, h2, h3, h4⟩ := h
  simp only [Nat.reduceAdd] at h1 h2 h3 h4
  have ht : s.take (k + 1) = s.take k ++ [dg n] := by rw [List.take_succ_eq_append_getElem hk, hs]
  refine ⟨by simp only [Nat.reduceAdd, List.length_append, List.length_singleton]; omega, fun a => by simp only [Nat.reduceAdd] at a; omega, fun a _ => by simp only [Nat.reduceAdd] at a; omega, fun _ => ⟨out, _, rfl, by rw [low_16 n hn]; omega, ?_⟩⟩
  rw [ht, tx_snoc, hex2_16 n hn]
  rcases Nat.eq_zero_or_pos (k % 5) with h0 | h0
  · rcases Nat.eq_zero_or_pos k with hk0 | hk0
    · have : out = [] := List.length_eq_zero_iff.mp (by subst hk0; simpa using h1)
      subst this; subst hk0
      simp [tx_nil]
    · rw [h2 h0 (by omega), if_pos ⟨by omega, by omega⟩]
      simp
  · rw [h3 hr (by omega), if_neg (by omega)]
    simp
set_option maxHeartbeats 4000000 in
theorem pinv4_low {sign : UInt8} {s i : List UInt8} {x : UInt8} {k n : Nat} (h : PInv sign 2 4 s k (i ++ [x])) (hk : k < s.length) (hn : n < 16) (hs : s[k] = dg n) (hr : k % 5 % 2 = 1) : PInv sign 2 4 s (k + 1) (i ++ [UInt8.ofNat (x.toNat + n)]) := by
  obtain ⟨h1, h2, h3, h4⟩ := h
  simp only [Nat.reduceAdd] at h1 h2 h3 h4
  obtain ⟨i', x', e1, hx, e2⟩ := h4 hr
  obtain ⟨rfl, e3⟩ := List.append_inj' e1 rfl
  obtain rfl : x = x' := by simpa using e3
  have ht : s.take (k + 1) = s.take k ++ [dg n] := by rw [List.take_succ_eq_append_getElem hk, hs]
  obtain ⟨a, ea, eb⟩ := hex2_low x n hn hx
  rw [tx_snoc, ea] at e2
  have e4 : s.take k = tx sign 2 i ++ ((if 0 < i.length ∧ i.length % 2 = 0 then [sign] else []) ++ [a]) := by
    have : s.take k ++ [48] = (tx sign 2 i ++ ((if 0 < i.length ∧ i.length % 2 = 0 then [sign] else []) ++ [a])) ++ [48] := by rw [e2]; simp
    exact (List.append_inj' this rfl).1
  simp only [List.length_append, List.length_singleton] at h1
  refine ⟨by simp only [Nat.reduceAdd, List.length_append, List.length_singleton]; omega, fun a => by simp only [Nat.reduceAdd] at a; omega, fun _ _ => ?_, fun a => by simp only [Nat.reduceAdd] at a; omega⟩
  rw [ht, e4, tx_snoc, eb]
  simp
set_option maxHeartbeats 4000000 in
theorem pinv4_sign {sign : UInt8} {s out : List UInt8} {k : Nat} (h : PInv sign 2 4 s k out) (hk : k < s.length) (hs : s[k] = sign) (hr : k % 5 = 4) : PInv sign 2 4 s (k + 1) out := by
  obtain ⟨h1, h2, h3, h4⟩ := h
  simp only [Nat.reduceAdd] at h1 h2 h3 h4
  have ht : s.take (k + 1) = s.take k ++ [sign] := by rw [List.take_succ_eq_append_getElem hk, hs]
  refine ⟨by simp only [Nat.reduceAdd]; omega, fun _ _ => ?_, fun a b => by simp only [Nat.reduceAdd] at a b; omega, fun a => by simp only [Nat.reduceAdd] at a; omega⟩
  rw [ht, h3 (by omega) (by omega)]
theorem pinv4_end {sign : UInt8} {s out : List UInt8} (h : PInv sign 2 4 s s.length out) (hr : s.length % 5 = 4) : s = tx sign 2 out := by
  have := h.2.2.1 (by simp only [Nat.reduceAdd]; omega) (by simp only [Nat.reduceAdd]; omega)
  rwa [List.take_of_length_le (Nat.le_refl _)] at this

set_option maxHeartbeats 2000000 in
theorem pieces4_any (s : List UInt8) (sign : UInt8) (w : World) (hs : s.length ≤ 140737488351232) :
    Calls Try.prog 15 #[.string ⟨s.toArray⟩, .int .u8 (sign.toNat : Int), .int .i64 4] w fun e w' => PPost sign 2 s w e w' := by
  go_enter Try.func15, Try.ntmps15
  go_wp2
  go_loopw [9, 8] (fun i v wr => ∃ (k : Nat) (l : List UInt8) (A' : Option Addr) (c' : Nat), k ≤ s.length ∧ i = .int .i64 k ∧ v = .slice A' l.length c' ∧ l.length ≤ k + 1 ∧ wr.ownsRow w.heap.size 5 1 (.slice A' l.length c') l.length (cb l) ∧ Below w.heap.size w wr ∧ Hid (PInv sign 2 4 s k l)) (fun i _ _ => s.length - (intOf i).toNat)
  case atStart => exact ⟨0, [], none, 0, Nat.zero_le _, rfl, rfl, by decide, World.ownsRow_nil _ _ _ _, Below.refl _ _, pinv4_zero sign s⟩
  case round =>
    obtain ⟨k, l, A', c', hk, rfl, rfl, hl, ho, hb, HI⟩ := hrel
    have hbs := hb.size
    by_cases hlt : k < s.length
    · have hix : ({ data := s.toArray } : ByteArray)[k]'hlt = s[k] := rfl
      by_cases hr : k % 5 = 4
      · have t1 : (((k : Int) % 5) == 4) = true := by simp; omega
        by_cases hsg : s[k] = sign
        · have t2 : (((({ data := s.toArray } : ByteArray)[k]'hlt).toNat : Int) != (sign.toNat : Int)) = false := u8eqn hsg
          have HS := Lib.hid hsg
          have HR := Lib.hid hr
          clear hsg hr hix
          by_cases hla : k = s.length - 1
          · have t3 : ((k : Int) == (s.length : Int) - 1) = true := by simp; omega
            clear hla
            go_wp2
            go_ret2
            exact ⟨none, 0, 0, false, rfl, hb, fun h => by cases h⟩
          · have t3 : ((k : Int) == (s.length : Int) - 1) = false := by simp; omega
            clear hla
            go_wp2
            go_roundw
            case rel => exact ⟨k + 1, l, A', c', by omega, by go_num, rfl, by omega, ho, hb, pinv4_sign HI.out hlt HS.out HR.out⟩
            case measure => simp [intOf]; omega
        · have t2 : (((({ data := s.toArray } : ByteArray)[k]'hlt).toNat : Int) != (sign.toNat : Int)) = true := u8nen hsg
          clear hsg hr hix
          go_wp2
          go_ret2
          exact ⟨none, 0, 0, false, rfl, hb, fun h => by cases h⟩
      · have t1 : (((k : Int) % 5) == 4) = false := by simp; omega
        have hsm := smv_le s[k]
        by_cases hn : smv s[k] < 16
        · have HS := Lib.hid (smv_dg hn)
          have HR := Lib.hid hr
          clear hr
          by_cases hev : k % 5 % 2 = 0
          · have t3 : (((k : Int) % 5 % 2) == 0) = true := by simp; omega
            have HEV := Lib.hid hev
            clear hev
            go_wp2_with fail
            refine (small_any s[k] _).mono ?_
            rintro e w' ⟨rfl, rfl⟩
            have HP := Lib.hid (pinv4_new HI.out hlt hn HS.out HEV.out HR.out)
            generalize smv s[k] = nn at hn HP hsm ⊢
            have e16 := low_16 nn hn
            have E16 := Lib.hid (show cb [UInt8.ofNat (16 * nn)] = [.int .u8 (16 * (nn : Int))] by simp only [cb, List.map, e16]; simp)
            clear e16
            go_wp2_with (at_builtin; refine wpList_app rfl (.tmp 46) (.tmp 50) 22 rfl w.heap.size 5 Try.underlying22 info8 _ l (l.length + 1) rfl ?c0 _ 1 1 [UInt8.ofNat (16 * nn)] rfl rfl ?c1 rfl ?c2 ?c3 ?_)
            case c0 => exact ho.alloc _
            case c1 => exact Rd.new _ _ _ _ (by rw [E16.out])
            case c2 => omega
            case c3 => simp; omega
            intro A2 c2 w2 ho2 hg2 hat2
            have hb2 : Below w.heap.size w w2 := (hb.alloc hb.size _).grown hg2 (by simp; omega) fun q hq => (ho.lt q hq).1
            clear hg2 hat2
            go_wp2
            go_roundw
            case rel => exact ⟨k + 1, l ++ [UInt8.ofNat (16 * nn)], A2, c2, by omega, by go_num, by simp, by simp; omega, by simpa using ho2, hb2, HP.out⟩
            case measure => simp [intOf]; omega
          · have t3 : (((k : Int) % 5 % 2) == 0) = false := by simp; omega
            obtain ⟨i, x, rfl, hx, _⟩ := HI.out.2.2.2 (by simp only [Nat.reduceAdd]; omega)
            have hx0 : x.toNat ≤ 240 := by have := x.toNat_lt; omega
            have HEV := Lib.hid (show k % 5 % 2 = 1 by omega)
            have HX := Lib.hid hx
            clear hev hx
            have hpos : 0 < (i ++ [x]).length := by simp
            obtain ⟨g, cap, hv, _, _⟩ := ho.form hpos
            have hA : A' = some ⟨g, 0, none⟩ := by injection hv
            subst hA
            have c0 := own_cell ho (j := i.length) (by simp) rfl
            have f0 := own_frozen ho i.length rfl
            have ex : (i ++ [x])[i.length]'(by simp) = x := by simp
            rw [ex] at c0
            have hlen : (i ++ [x]).length = i.length + 1 := by simp
            rw [hlen] at hl
            rw [hlen]
            clear hv ex hlen hpos
            go_wp2_with fail
            refine (small_any s[k] _).mono ?_
            rintro e w' ⟨rfl, rfl⟩
            have HP := Lib.hid (pinv4_low HI.out hlt hn HS.out HEV.out)
            generalize smv s[k] = nn at hn HP hsm ⊢
            have la := Lib.hid (low_add x nn hn HX.out)
            go_wp2
            go_roundw
            case rel =>
              have R := own_store ho (j := i.length) (UInt8.ofNat (x.toNat + nn)) rfl
              have e1 : (i ++ [x]).set i.length (UInt8.ofNat (x.toNat + nn)) = i ++ [UInt8.ofNat (x.toNat + nn)] := by rw [List.set_append_right _ _ (Nat.le_refl _)]; simp
              rw [e1, la.out] at R
              refine ⟨k + 1, i ++ [UInt8.ofNat (x.toNat + nn)], some ⟨g, 0, none⟩, c', by omega, by go_num, by simp, by simp; omega, ?_, hb.setCell (p := ⟨g, i.length, none⟩) ?_ _, HP.out⟩
              · simpa using R
              · exact (ho.lt g rfl).1
            case measure => simp [intOf]; omega
        · have t2 : decide ((15 : Int) < (smv s[k] : Int)) = true := by simp; omega
          clear hr
          go_wp2_with fail
          refine (small_any s[k] _).mono ?_
          rintro e w' ⟨rfl, rfl⟩
          go_wp2
          go_ret2
          exact ⟨none, 0, 0, false, rfl, hb, fun h => by cases h⟩
    · obtain rfl : k = s.length := by omega
      by_cases hr : s.length % 5 = 4
      · have t1 : (((s.length : Int) % 5) == 4) = true := by simp; omega
        have HE := Lib.hid (pinv4_end HI.out hr)
        clear hr
        go_wp2
        go_quiet (fail)
        go_wp2
        go_ret2
        exact ⟨A', l.length, c', true, rfl, below_drewN hb _, fun _ => ⟨l, rfl, HE.out, ho⟩⟩
      · have t1 : (((s.length : Int) % 5) == 4) = false := by simp; omega
        clear hr
        go_wp2
        go_quiet (fail)
        go_wp2
        go_ret2
        exact ⟨A', l.length, c', false, rfl, below_drewN hb _, fun h => by cases h⟩

theorem pinv12_zero (sign : UInt8) (s : List UInt8) : PInv sign 6 12 s 0 [] := ⟨rfl, fun _ h => absurd rfl h, fun _ h => absurd rfl h, fun h => by simp at h⟩
set_option maxHeartbeats 4000000 in
theorem pinv12_new {sign : UInt8} {s out : List UInt8} {k n : Nat} (h : PInv sign 6 12 s k out) (hk : k < s.length) (hn : n < 16) (hs : s[k] = dg n) (hr : k % 13 % 2 = 0) (hne : k % 13 ≠ 12) : PInv sign 6 12 s (k + 1) (out ++ [UInt8.ofNat (16 * n)]) := by
  obtain ⟨h1, h2, h3, h4⟩ := h
  simp only [Nat.reduceAdd] at h1 h2 h3 h4
  have ht : s.take (k + 1) = s.take k ++ [dg n] := by rw [List.take_succ_eq_append_getElem hk, hs]
  refine ⟨by simp only [Nat.reduceAdd, List.length_append, List.length_singleton]; omega, fun a => by simp only [Nat.reduceAdd] at a; omega, fun a _ => by simp only [Nat.reduceAdd] at a; omega, fun _ => ⟨out, _, rfl, by rw [low_16 n hn]; omega, ?_⟩⟩
  rw [ht, tx_snoc, hex2_16 n hn]
  rcases Nat.eq_zero_or_pos (k % 13) with h0 | h0
  · rcases Nat.eq_zero_or_pos k with hk0 | hk0
    · have : out = [] := List.length_eq_zero_iff.mp (by subst hk0; simpa using h1)
      subst this; subst hk0
      simp [tx_nil]
    · rw [h2 h0 (by omega), if_pos ⟨by omega, by omega⟩]
      simp
  · rw [h3 hr (by omega), if_neg (by omega)]
    simp
set_option maxHeartbeats 4000000 in
theorem pinv12_low {sign : UInt8} {s i : List UInt8} {x : UInt8} {k n : Nat} (h : PInv sign 6 12 s k (i ++ [x])) (hk : k < s.length) (hn : n < 16) (hs : s[k] = dg n) (hr : k % 13 % 2 = 1) : PInv sign 6 12 s (k + 1) (i ++ [UInt8.ofNat (x.toNat + n)]) := by
  obtain ⟨h1, h2, h3, h4⟩ := h
  simp only [Nat.reduceAdd] at h1 h2 h3 h4
  obtain ⟨i', x', e1, hx, e2⟩ := h4 hr
  obtain ⟨rfl, e3⟩ := List.append_inj' e1 rfl
  obtain rfl : x = x' := by simpa using e3
  have ht : s.take (k + 1) = s.take k ++ [dg n] := by rw [List.take_succ_eq_append_getElem hk, hs]
  obtain ⟨a, ea, eb⟩ := hex2_low x n hn hx
  rw [tx_snoc, ea] at e2
  have e4 : s.take k = tx sign 6 i ++ ((if 0 < i.length ∧ i.length % 6 = 0 then [sign] else []) ++ [a]) := by
    have : s.take k ++ [48] = (tx sign 6 i ++ ((if 0 < i.length ∧ i.length % 6 = 0 then [sign] else []) ++ [a])) ++ [48] := by rw [e2]; simp
    exact (List.append_inj' this rfl).1
  simp only [List.length_append, List.length_singleton] at h1
  refine ⟨by simp only [Nat.reduceAdd, List.length_append, List.length_singleton]; omega, fun a => by simp only [Nat.reduceAdd] at a; omega, fun _ _ => ?_, fun a => by simp only [Nat.reduceAdd] at a; omega⟩
  rw [ht, e4, tx_snoc, eb]
  simp
set_option maxHeartbeats 4000000 in
theorem pinv12_sign {sign : UInt8} {s out : List UInt8} {k : Nat} (h : PInv sign 6 12 s k out) (hk : k < s.length) (hs : s[k] = sign) (hr : k % 13 = 12) : PInv sign 6 12 s (k + 1) out := by
  obtain ⟨h1, h2, h3, h4⟩ := h
  simp only [Nat.reduceAdd] at h1 h2 h3 h4
  have ht : s.take (k + 1) = s.take k ++ [sign] := by rw [List.take_succ_eq_append_getElem hk, hs]
  refine ⟨by simp only [Nat.reduceAdd]; omega, fun _ _ => ?_, fun a b => by simp only [Nat.reduceAdd] at a b; omega, fun a => by simp only [Nat.reduceAdd] at a; omega⟩
  rw [ht, h3 (by omega) (by omega)]
theorem pinv12_end {sign : UInt8} {s out : List UInt8} (h : PInv sign 6 12 s s.length out) (hr : s.length % 13 = 12) : s = tx sign 6 out := by
  have := h.2.2.1 (by simp only [Nat.reduceAdd]; omega) (by simp only [Nat.reduceAdd]; omega)
  rwa [List.take_of_length_le (Nat.le_refl _)] at this

set_option maxHeartbeats 2000000 in
theorem pieces12_any (s : List UInt8) (sign : UInt8) (w : World) (hs : s.length ≤ 140737488351232) :
    Calls Try.prog 15 #[.string ⟨s.toArray⟩, .int .u8 (sign.toNat : Int), .int .i64 12] w fun e w' => PPost sign 6 s w e w' := by
  go_enter Try.func15, Try.ntmps15
  go_wp2
  go_loopw [9, 8] (fun i v wr => ∃ (k : Nat) (l : List UInt8) (A' : Option Addr) (c' : Nat), k ≤ s.length ∧ i = .int .i64 k ∧ v = .slice A' l.length c' ∧ l.length ≤ k + 1 ∧ wr.ownsRow w.heap.size 5 1 (.slice A' l.length c') l.length (cb l) ∧ Below w.heap.size w wr ∧ Hid (PInv sign 6 12 s k l)) (fun i _ _ => s.length - (intOf i).toNat)
  case atStart => exact ⟨0, [], none, 0, Nat.zero_le _, rfl, rfl, by decide, World.ownsRow_nil _ _ _ _, Below.refl _ _, pinv12_zero sign s⟩
  case round =>
    obtain ⟨k, l, A', c', hk, rfl, rfl, hl, ho, hb, HI⟩ := hrel
    have hbs := hb.size
    by_cases hlt : k < s.length
    · have hix : ({ data := s.toArray } : ByteArray)[k]'hlt = s[k] := rfl
      by_cases hr : k % 13 = 12
      · have t1 : (((k : Int) % 13) == 12) = true := by simp; omega
        by_cases hsg : s[k] = sign
        · have t2 : (((({ data := s.toArray } : ByteArray)[k]'hlt).toNat : Int) != (sign.toNat : Int)) = false := u8eqn hsg
          have HS := Lib.hid hsg
          have HR := Lib.hid hr
          clear hsg hr hix
          by_cases hla : k = s.length - 1
          · have t3 : ((k : Int) == (s.length : Int) - 1) = true := by simp; omega
            clear hla
            go_wp2
            go_ret2
            exact ⟨none, 0, 0, false, rfl, hb, fun h => by cases h⟩
          · have t3 : ((k : Int) == (s.length : Int) - 1) = false := by simp; omega
            clear hla
            go_wp2
            go_roundw
            case rel => exact ⟨k + 1, l, A', c', by omega, by go_num, rfl, by omega, ho, hb, pinv12_sign HI.out hlt HS.out HR.out⟩
            case measure => simp [intOf]; omega
        · have t2 : (((({ data := s.toArray } : ByteArray)[k]'hlt).toNat : Int) != (sign.toNat : Int)) = true := u8nen hsg
          clear hsg hr hix
          go_wp2
          go_ret2
          exact ⟨none, 0, 0, false, rfl, hb, fun h => by cases h⟩
      · have t1 : (((k : Int) % 13) == 12) = false := by simp; omega
        have hsm := smv_le s[k]
        by_cases hn : smv s[k] < 16
        · have HS := Lib.hid (smv_dg hn)
          have HR := Lib.hid hr
          clear hr
          by_cases hev : k % 13 % 2 = 0
          · have t3 : (((k : Int) % 13 % 2) == 0) = true := by simp; omega
            have HEV := Lib.hid hev
            clear hev
            go_wp2_with fail
            refine (small_any s[k] _).mono ?_
            rintro e w' ⟨rfl, rfl⟩
            have HP := Lib.hid (pinv12_new HI.out hlt hn HS.out HEV.out HR.out)
            generalize smv s[k] = nn at hn HP hsm ⊢
            have e16 := low_16 nn hn
            have E16 := Lib.hid (show cb [UInt8.ofNat (16 * nn)] = [.int .u8 (16 * (nn : Int))] by simp only [cb, List.map, e16]; simp)
            clear e16
            go_wp2_with (at_builtin; refine wpList_app rfl (.tmp 46) (.tmp 50) 22 rfl w.heap.size 5 Try.underlying22 info8 _ l (l.length + 1) rfl ?c0 _ 1 1 [UInt8.ofNat (16 * nn)] rfl rfl ?c1 rfl ?c2 ?c3 ?_)
            case c0 => exact ho.alloc _
            case c1 => exact Rd.new _ _ _ _ (by rw [E16.out])
            case c2 => omega
            case c3 => simp; omega
            intro A2 c2 w2 ho2 hg2 hat2
            have hb2 : Below w.heap.size w w2 := (hb.alloc hb.size _).grown hg2 (by simp; omega) fun q hq => (ho.lt q hq).1
            clear hg2 hat2
            go_wp2
            go_roundw
            case rel => exact ⟨k + 1, l ++ [UInt8.ofNat (16 * nn)], A2, c2, by omega, by go_num, by simp, by simp; omega, by simpa using ho2, hb2, HP.out⟩
            case measure => simp [intOf]; omega
          · have t3 : (((k : Int) % 13 % 2) == 0) = false := by simp; omega
            obtain ⟨i, x, rfl, hx, _⟩ := HI.out.2.2.2 (by simp only [Nat.reduceAdd]; omega)
            have hx0 : x.toNat ≤ 240 := by have := x.toNat_lt; omega
            have HEV := Lib.hid (show k % 13 % 2 = 1 by omega)
            have HX := Lib.hid hx
            clear hev hx
            have hpos : 0 < (i ++ [x]).length := by simp
            obtain ⟨g, cap, hv, _, _⟩ := ho.form hpos
            have hA : A' = some ⟨g, 0, none⟩ := by injection hv
            subst hA
            have c0 := own_cell ho (j := i.length) (by simp) rfl
            have f0 := own_frozen ho i.length rfl
            have ex : (i ++ [x])[i.length]'(by simp) = x := by simp
            rw [ex] at c0
            have hlen : (i ++ [x]).length = i.length + 1 := by simp
            rw [hlen] at hl
            rw [hlen]
            clear hv ex hlen hpos
            go_wp2_with fail
            refine (small_any s[k] _).mono ?_
            rintro e w' ⟨rfl, rfl⟩
            have HP := Lib.hid (pinv12_low HI.out hlt hn HS.out HEV.out)
            generalize smv s[k] = nn at hn HP hsm ⊢
            have la := Lib.hid (low_add x nn hn HX.out)
            go_wp2
            go_roundw
            case rel =>
              have R := own_store ho (j := i.length) (UInt8.ofNat (x.toNat + nn)) rfl
              have e1 : (i ++ [x]).set i.length (UInt8.ofNat (x.toNat + nn)) = i ++ [UInt8.ofNat (x.toNat + nn)] := by rw [List.set_append_right _ _ (Nat.le_refl _)]; simp
              rw [e1, la.out] at R
              refine ⟨k + 1, i ++ [UInt8.ofNat (x.toNat + nn)], some ⟨g, 0, none⟩, c', by omega, by go_num, by simp, by simp; omega, ?_, hb.setCell (p := ⟨g, i.length, none⟩) ?_ _, HP.out⟩
              · simpa using R
              · exact (ho.lt g rfl).1
            case measure => simp [intOf]; omega
        · have t2 : decide ((15 : Int) < (smv s[k] : Int)) = true := by simp; omega
          clear hr
          go_wp2_with fail
          refine (small_any s[k] _).mono ?_
          rintro e w' ⟨rfl, rfl⟩
          go_wp2
          go_ret2
          exact ⟨none, 0, 0, false, rfl, hb, fun h => by cases h⟩
    · obtain rfl : k = s.length := by omega
      by_cases hr : s.length % 13 = 12
      · have t1 : (((s.length : Int) % 13) == 12) = true := by simp; omega
        have HE := Lib.hid (pinv12_end HI.out hr)
        clear hr
        go_wp2
        go_quiet (fail)
        go_wp2
        go_ret2
        exact ⟨A', l.length, c', true, rfl, below_drewN hb _, fun _ => ⟨l, rfl, HE.out, ho⟩⟩
      · have t1 : (((s.length : Int) % 13) == 12) = false := by simp; omega
        clear hr
        go_wp2
        go_quiet (fail)
        go_wp2
        go_ret2
        exact ⟨A', l.length, c', false, rfl, below_drewN hb _, fun h => by cases h⟩
end Go.Proofs.Ytemfbjkcemhkjaa
