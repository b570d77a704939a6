/-
  Contract of spec.Split: what it says is clear is what net.SplitHostPort gives. Condition: the length (2^20).
-/
import Derived.Test.YtebnhhifodmkkaaSpecSplit
import Derived.Test.YtebnhhifodmkkaaImplSplit
namespace Go.Proofs.Ytebnhhifodmkkaa
open Go.RowKit
set_option linter.unusedVariables false

/-- what net.SplitHostPort gives for a string -/
def SplitIs (s : List UInt8) (o : Option (List UInt8 × List UInt8)) : Prop := ∀ w, Calls Try.prog 40 #[.string ⟨s.toArray⟩] w fun e w' => SplitBack w o e w'

theorem first_at {c : UInt8} {s : List UInt8} (h : c ∈ s) : ∃ a b, s = a ++ c :: b ∧ c ∉ a := by
  induction s with
  | nil => cases h
  | cons x s ih =>
    by_cases hx : x = c
    · exact ⟨[], s, by simp [hx], by simp⟩
    · have h' : c ∈ s := by
        rcases List.mem_cons.mp h with e | e
        · exact absurd e.symm hx
        · exact e
      obtain ⟨a, b, rfl, ha⟩ := ih h'
      exact ⟨x :: a, b, by simp, by simp only [List.mem_cons, not_or]; exact ⟨fun e => hx e.symm, ha⟩⟩
theorem splitL_two {s a b : List UInt8} (h : splitL 58 s = [a, b]) : s = a ++ 58 :: b ∧ (58 : UInt8) ∉ a ∧ (58 : UInt8) ∉ b := by
  by_cases hm : (58 : UInt8) ∈ s
  · obtain ⟨p, q, rfl, hp⟩ := first_at hm
    rw [splitL_at hp] at h
    simp only [List.cons.injEq] at h
    obtain ⟨rfl, h2⟩ := h
    by_cases hq : (58 : UInt8) ∈ q
    · obtain ⟨p2, q2, rfl, hp2⟩ := first_at hq
      rw [splitL_at hp2] at h2
      simp only [List.cons.injEq] at h2
      exact absurd h2.2 (splitL_ne _ _)
    · rw [splitL_none hq] at h2
      simp only [List.cons.injEq, and_true] at h2
      subst h2
      exact ⟨rfl, hp, hq⟩
  · rw [splitL_none hm] at h
    simp at h
theorem splitL_other {s : List UInt8} (h : (splitL 58 s).length ≠ 2) : (58 : UInt8) ∉ s ∨ ∃ a b c, s = a ++ 58 :: (b ++ 58 :: c) := by
  by_cases hm : (58 : UInt8) ∈ s
  · obtain ⟨p, q, rfl, hp⟩ := first_at hm
    rw [splitL_at hp] at h
    by_cases hq : (58 : UInt8) ∈ q
    · obtain ⟨p2, q2, rfl, hp2⟩ := first_at hq
      exact .inr ⟨p, p2, q2, rfl⟩
    · rw [splitL_none hq] at h
      simp at h
  · exact .inl hm

theorem is_none {s : List UInt8} (hs : s.length ≤ 1048576) (h1 : (91 : UInt8) ∉ s) (h : (splitL 58 s).length ≠ 2) : SplitIs s none := by
  intro w
  rcases splitL_other h with hn | ⟨a, b, c, e⟩
  · exact split_none s w (by omega) hn
  · rcases split_last s with hn | ⟨i, hi⟩
    · exact split_none s w (by omega) hn
    · refine split_p1 s i w (by omega) hi (fun hp e => h1 (e ▸ List.getElem_mem hp)) ?_
      have hal : a.length < i := by
        obtain ⟨h1, h2, h3⟩ := hi
        have hlen : a.length + 1 + b.length < s.length := by rw [e]; simp; omega
        have e1 : s[a.length + 1 + b.length] = 58 := by
          subst e
          rw [List.getElem_append_right (by omega)]
          simp only [show a.length + 1 + b.length - a.length = b.length + 1 by omega, List.getElem_cons_succ]
          simp
        rcases Nat.lt_or_ge i (a.length + 1 + b.length) with h4 | h4
        · exact absurd e1 (h3 _ hlen h4)
        · omega
      rw [e, List.take_append]
      have : (58 :: (b ++ 58 :: c)).take (i - a.length) = 58 :: (b ++ 58 :: c).take (i - a.length - 1) := by
        rw [show i - a.length = (i - a.length - 1) + 1 by omega, List.take_succ_cons]
        simp
      rw [this]
      simp
theorem is_two {s a b : List UInt8} (hs : s.length ≤ 1048576) (h1 : (91 : UInt8) ∉ s) (h2 : (93 : UInt8) ∉ s) (h : splitL 58 s = [a, b]) : SplitIs s (some (a, b)) := by
  intro w
  obtain ⟨e, ha, hb⟩ := splitL_two h
  subst e
  simp only [List.mem_append, List.mem_cons, not_or, List.length_append, List.length_cons] at h1 h2 hs
  have := split_join a b (by omega) (by omega) h1.1 h2.1 h1.2.2 h2.2.2 hb w
  rwa [show join a b = a ++ 58 :: b by simp [join, ha]] at this

/-- four results -/
theorem results_four {fn : Func} {t u v x : Tmp} (h : fn.results = #[.tmp t, .tmp u, .tmp v, .tmp x]) (tmps : Array Value) (P : Program) (w : World) :
    (results fn tmps).run P w = .ok (.tuple #[tmps.getD t undef, tmps.getD u undef, tmps.getD v undef, tmps.getD x undef]) w := by simp [results, h]

/-- what spec.Split gives: where it says clear, what net.SplitHostPort gives -/
def SpecSplitBack (s : List UInt8) (w : World) (e : Ending) (w' : World) : Prop :=
  ∃ (h p : List UInt8) (ok clear : Bool), e = .returned (.tuple #[.string ⟨h.toArray⟩, .string ⟨p.toArray⟩, .bool ok, .bool clear]) ∧ (clear = true → SplitIs s (if ok then some (h, p) else none)) ∧ (ok = false → h = [] ∧ p = []) ∧ Below w.heap.size w w'

theorem hasb_br (s : List UInt8) (h : hasb s [91, 93] = false) : (91 : UInt8) ∉ s ∧ (93 : UInt8) ∉ s := by
  simp only [hasb, List.any_eq_false] at h
  exact ⟨fun hm => h _ hm (by simp), fun hm => h _ hm (by simp)⟩

theorem own_str {w : World} {base g n cap j : Nat} {e : TypeId} {ls : List (List UInt8)} (h : w.ownsRow base e 1 (.slice (some ⟨g, 0, none⟩) n cap) n (css ls)) (hn : ls.length = n) (hj : j < ls.length) :
    w.cell? ⟨g, j, none⟩ = some (.string ⟨(ls[j]).toArray⟩) := by
  subst hn
  rw [h.cellAt j (by omega), css_get ls j hj]

set_option maxHeartbeats 400000 in
theorem specSplit_plain (s : List UInt8) (w : World) (hs : s.length ≤ 1048576) (hb : hasb s [91, 93] = false) :
    Calls Try.prog 24 #[.string ⟨s.toArray⟩] w fun e w' => SpecSplitBack s w e w' := by
  have HB := Lib.hid hb
  have HS := Lib.hid hs
  clear hb
  go_enter Try.func24, Try.ntmps24
  go_wp2_with fail
  refine (has_any s [91, 93] _ (by omega) (by decide) false HB.out).mono ?_
  rintro e w1 ⟨rfl, k1, rfl⟩
  go_wp2_with fail
  refine (split_any s 58 _ hs).mono ?_
  rintro e w2 ⟨A2, n2, c2, rfl, hn2, hown2, hb2'⟩
  have hb2 := below_undrewN hb2'
  clear hb2'
  by_cases h2 : n2 = 2
  · subst h2
    obtain ⟨g, cap, hv, _, hlt⟩ := hown2.form (by decide)
    obtain ⟨a, b, hab⟩ : ∃ a b, splitL 58 s = [a, b] := by
      match h : splitL 58 s, hn2 with
      | [a, b], _ => exact ⟨a, b, rfl⟩
    rw [hab] at hown2
    have hA : A2 = some ⟨g, 0, none⟩ ∧ c2 = cap := by injection hv with h1 _ h2; exact ⟨h1, h2⟩
    obtain ⟨rfl, rfl⟩ := hA
    have c0 : w2.cell? ⟨g, 0, none⟩ = some (.string ⟨a.toArray⟩) := own_str hown2 rfl (j := 0) (by simp)
    have c1 : w2.cell? ⟨g, 1, none⟩ = some (.string ⟨b.toArray⟩) := own_str hown2 rfl (j := 1) (by simp)
    have HI := Lib.hid (is_two hs (hasb_br s HB.out).1 (hasb_br s HB.out).2 hab)
    clear hn2 hab hv hown2 hlt
    go_wp2
    go_quiet (fail)
    go_wp2
    refine bodyPost_ret (results_four rfl _ _ _) rfl ?_
    exact ⟨a, b, true, true, rfl, fun _ => by simpa using HI.out, (fun h => by cases h), below_drewN hb2 _⟩
  · have t1 : ((n2 : Int) != 2) = true := by rw [bne_iff_ne]; omega
    have HI := Lib.hid (is_none hs (hasb_br s HB.out).1 (by rw [hn2]; exact h2))
    clear hn2 hown2 h2
    go_wp2
    refine bodyPost_ret (results_four rfl _ _ _) rfl ?_
    exact ⟨[], [], false, true, rfl, fun _ => by simpa using HI.out, fun _ => ⟨rfl, rfl⟩, hb2⟩

/-- a result that is not clear -/
theorem back_unclear {s : List UInt8} {w w' : World} (hb : Below w.heap.size w w') : SpecSplitBack s w (.returned (.tuple #[.string ⟨#[]⟩, .string ⟨#[]⟩, .bool false, .bool false])) w' :=
  ⟨[], [], false, false, rfl, (fun h => by cases h), (fun _ => ⟨rfl, rfl⟩), hb⟩

theorem hasb3 {r : List UInt8} (h : hasb r [58, 91, 93] = false) : (58 : UInt8) ∉ r ∧ (91 : UInt8) ∉ r ∧ (93 : UInt8) ∉ r := by
  simp only [hasb, List.any_eq_false] at h
  exact ⟨fun hm => h _ hm (by simp), fun hm => h _ hm (by simp), fun hm => h _ hm (by simp)⟩
theorem hasb1 {r : List UInt8} (h : hasb r [91] = false) : (91 : UInt8) ∉ r := by
  simp only [hasb, List.any_eq_false] at h
  exact fun hm => h _ hm (by simp)

theorem is_bracket {s r : List UInt8} {k : Nat} (hs : s.length ≤ 1048576) (h0 : s.head? = some 91) (hk : k < s.length) (hk1 : 1 ≤ k) (hr : s[k] = 93) (hn : ∀ j (hj : j < s.length), 1 ≤ j → j < k → s[j] ≠ 93)
    (hrest : s.drop (k + 1) = 58 :: r) (h1 : hasb ((s.take k).drop 1) [91] = false) (h2 : hasb r [58, 91, 93] = false) : SplitIs s (some ((s.take k).drop 1, r)) := by
  have e1 : s = 91 :: ((s.take k).drop 1 ++ 93 :: 58 :: r) := by
    have a1 : s = s.take k ++ s.drop k := (List.take_append_drop k s).symm
    have a2 : s.drop k = 93 :: 58 :: r := by rw [← List.getElem_cons_drop hk, hr, hrest]
    have a3 : s.take k = 91 :: (s.take k).drop 1 := by
      match s, h0 with
      | x :: t, h0 =>
        simp only [List.head?_cons, Option.some.injEq] at h0
        subst h0
        obtain ⟨m, rfl⟩ : ∃ m, k = m + 1 := ⟨k - 1, by omega⟩
        simp
    rw [a2] at a1
    rw [a3] at a1
    exact a1
  have n93 : (93 : UInt8) ∉ (s.take k).drop 1 := by
    intro hm
    obtain ⟨j, hj, e⟩ := List.getElem_of_mem hm
    simp only [List.getElem_drop, List.getElem_take] at e
    simp at hj
    exact hn (1 + j) (by omega) (by omega) (by omega) e
  have hl : (s.take k).length ≤ 1048576 := by simp; omega
  have hrl : r.length ≤ 1048576 := by
    have := congrArg List.length hrest
    simp at this
    omega
  intro w
  have := split_bracket ((s.take k).drop 1) r (by simp; omega) (by omega) (hasb1 h1) n93 (hasb3 h2).2.1 (hasb3 h2).2.2 (hasb3 h2).1 w
  rwa [← e1] at this

set_option maxHeartbeats 1000000 in
theorem specSplit_br (s : List UInt8) (w : World) (hs : s.length ≤ 1048576) (hb : hasb s [91, 93] = true) :
    Calls Try.prog 24 #[.string ⟨s.toArray⟩] w fun e w' => SpecSplitBack s w e w' := by
  have HB := Lib.hid hb
  have hpos : 0 < s.length := by
    rcases s with _ | ⟨x, s⟩
    · simp [hasb] at hb
    · simp
  clear hb
  by_cases h0 : s[0] = 91
  · have t0 : (((({ data := s.toArray } : ByteArray)[0]'hpos).toNat : Int) != 91) = false := u8eqn (y := 91) h0
    have HH := Lib.hid (show s.head? = some 91 by rw [List.head?_eq_getElem?, List.getElem?_eq_getElem hpos, h0])
    clear h0
    go_enter Try.func24, Try.ntmps24
    go_wp2_with fail
    refine (has_any s [91, 93] _ (by omega) (by decide) true HB.out).mono ?_
    rintro e w1 ⟨rfl, k1, rfl⟩
    go_wp2
    go_loop [7] (fun i => ∃ k : Nat, 1 ≤ k ∧ k ≤ s.length ∧ i = .int .i64 k ∧ Hid (∀ j (hj : j < s.length), 1 ≤ j → j < k → s[j] ≠ 93)) (fun i => s.length - (intOf i).toNat)
    case atStart => exact ⟨1, Nat.le_refl _, hpos, rfl, fun j _ h1 h2 => absurd h2 (by omega)⟩
    case round =>
      obtain ⟨k, hk1, hk, rfl, HS⟩ := hrel
      by_cases hlt : k < s.length
      · by_cases he : s[k] = 93
        · have t1 : (((({ data := s.toArray } : ByteArray)[k]'hlt).toNat : Int) != 93) = false := u8eqn (y := 93) he
          have HE := Lib.hid he
          obtain ⟨m, hm⟩ : ∃ m, (s.take k).drop 1 = m := ⟨_, rfl⟩
          have h1 : ({ data := s.toArray } : ByteArray).extract 1 k = ⟨m.toArray⟩ := by rw [ba_cut, hm]
          obtain ⟨r, hr⟩ : ∃ r, s.drop (k + 1) = r := ⟨_, rfl⟩
          have h2 : ({ data := s.toArray } : ByteArray).extract (k + 1) s.length = ⟨r.toArray⟩ := by
            rw [ba_cut, List.take_of_length_le (Nat.le_refl _), hr]
          have hrl : r.length ≤ s.length := by rw [← hr]; simp
          have hml : m.length ≤ s.length := by rw [← hm]; simp; omega
          have HM := Lib.hid hm
          have HR := Lib.hid hr
          clear he hr hm
          by_cases b1 : hasb m [91] = true
          · have B1 := Lib.hid b1
            clear b1
            go_wp2_with fail
            refine (has_any m [91] _ (by omega) (by decide) true B1.out).mono ?_
            rintro e w2 ⟨rfl, k2, rfl⟩
            go_wp2
            refine bodyPost_ret (results_four rfl _ _ _) rfl ?_
            exact back_unclear (below_drewN (Below.refl _ _) _)
          · have B1 := Lib.hid (show hasb m [91] = false by simpa using b1)
            clear b1
            rcases r with _ | ⟨x, r⟩
            · go_wp2_with fail
              refine (has_any m [91] _ (by omega) (by decide) false B1.out).mono ?_
              rintro e w2 ⟨rfl, k2, rfl⟩
              go_wp2
              refine bodyPost_ret (results_four rfl _ _ _) rfl ?_
              exact back_unclear (below_drewN (Below.refl _ _) _)
            · have h3 : ({ data := (x :: r).toArray } : ByteArray).extract 1 (r.length + 1) = ⟨r.toArray⟩ := by rw [ba_cut]; simp
              by_cases hx : x = 58
              · have hxl : 0 < (x :: r).length := by simp
                have t2 : (((({ data := (x :: r).toArray } : ByteArray)[0]'hxl).toNat : Int) != 58) = false := u8eqn (y := 58) hx
                by_cases b2 : hasb r [58, 91, 93] = true
                · have B2 := Lib.hid b2
                  clear b2 hx
                  go_wp2_with fail
                  refine (has_any m [91] _ (by omega) (by decide) false B1.out).mono ?_
                  rintro e w2 ⟨rfl, k2, rfl⟩
                  go_wp2_with fail
                  refine (has_any r [58, 91, 93] _ (by simp at hrl; omega) (by decide) true B2.out).mono ?_
                  rintro e w3 ⟨rfl, k3, rfl⟩
                  go_wp2
                  refine bodyPost_ret (results_four rfl _ _ _) rfl ?_
                  exact back_unclear (below_drewN (Below.refl _ _) _)
                · have B2 := Lib.hid (show hasb r [58, 91, 93] = false by simpa using b2)
                  have HI0 := (is_bracket hs HH.out hlt hk1 HE.out HS.out (by rw [HR.out, hx]) (by rw [HM.out]; exact B1.out) B2.out)
                  rw [HM.out] at HI0
                  have HI := Lib.hid HI0
                  clear HI0
                  clear b2 hx
                  go_wp2_with fail
                  refine (has_any m [91] _ (by omega) (by decide) false B1.out).mono ?_
                  rintro e w2 ⟨rfl, k2, rfl⟩
                  go_wp2_with fail
                  refine (has_any r [58, 91, 93] _ (by simp at hrl; omega) (by decide) false B2.out).mono ?_
                  rintro e w3 ⟨rfl, k3, rfl⟩
                  go_wp2
                  go_quiet (fail)
                  go_wp2
                  refine bodyPost_ret (results_four rfl _ _ _) rfl ?_
                  exact ⟨m, r, true, true, rfl, fun _ => by simpa using HI.out, (fun h => by cases h), below_drewN (below_drewN (Below.refl _ _) _) _⟩
              · have hxl : 0 < (x :: r).length := by simp
                have t2 : (((({ data := (x :: r).toArray } : ByteArray)[0]'hxl).toNat : Int) != 58) = true := u8nen (y := 58) hx
                clear hx
                go_wp2_with fail
                refine (has_any m [91] _ (by omega) (by decide) false B1.out).mono ?_
                rintro e w2 ⟨rfl, k2, rfl⟩
                go_wp2
                refine bodyPost_ret (results_four rfl _ _ _) rfl ?_
                exact back_unclear (below_drewN (Below.refl _ _) _)
        · have t1 : (((({ data := s.toArray } : ByteArray)[k]'hlt).toNat : Int) != 93) = true := u8nen (y := 93) he
          go_wp2
          go_round
          case rel =>
            refine ⟨k + 1, by omega, by omega, by go_num, fun j hj a1 a2 => ?_⟩
            rcases Nat.lt_or_ge j k with h' | h'
            · exact HS.out j hj a1 h'
            · obtain rfl : j = k := by omega
              exact he
          case measure => simp [intOf]; omega
      · go_wp2
        refine bodyPost_ret (results_four rfl _ _ _) rfl ?_
        exact back_unclear (below_drewN (Below.refl _ _) _)
  · have t0 : (((({ data := s.toArray } : ByteArray)[0]'hpos).toNat : Int) != 91) = true := u8nen (y := 91) h0
    clear h0
    go_enter Try.func24, Try.ntmps24
    go_wp2_with fail
    refine (has_any s [91, 93] _ (by omega) (by decide) true HB.out).mono ?_
    rintro e w1 ⟨rfl, k1, rfl⟩
    go_wp2
    refine bodyPost_ret (results_four rfl _ _ _) rfl ?_
    exact back_unclear (below_drewN (Below.refl _ _) _)

theorem specSplit_any (s : List UInt8) (w : World) (hs : s.length ≤ 1048576) :
    Calls Try.prog 24 #[.string ⟨s.toArray⟩] w fun e w' => SpecSplitBack s w e w' := by
  by_cases hb : hasb s [91, 93] = true
  · exact specSplit_br s w hs hb
  · exact specSplit_plain s w hs (by simpa using hb)
end Go.Proofs.Ytebnhhifodmkkaa
