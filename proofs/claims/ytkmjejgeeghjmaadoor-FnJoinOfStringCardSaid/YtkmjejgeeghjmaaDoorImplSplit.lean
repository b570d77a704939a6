/-
  Contracts of impl.SplitHostPort (over what net.SplitHostPort gives) and of laws.has. Condition: the length (2^49).
-/
import Derived.Test.YtkmjejgeeghjmaaDoorSplit
namespace Go.Proofs.YtkmjejgeeghjmaaDoor
open Go.RowKit
set_option linter.unusedVariables false

theorem split_last (s : List UInt8) : (58 : UInt8) ∉ s ∨ ∃ i, LastAt s 58 i := by
  induction s with
  | nil => exact .inl (by simp)
  | cons x s ih =>
    rcases ih with h | ⟨i, h1, h2, h3⟩
    · by_cases hx : x = 58
      · refine .inr ⟨0, by simp, by simpa using hx, fun j hj h0 e => ?_⟩
        rcases j with _ | j
        · omega
        · exact h (by simp at e; rw [← e]; exact List.getElem_mem _)
      · exact .inl (by simp only [List.mem_cons, not_or]; exact ⟨fun e => hx e.symm, h⟩)
    · refine .inr ⟨i + 1, by simp; omega, by simpa using h2, fun j hj h0 => ?_⟩
      rcases j with _ | j
      · omega
      · simpa using h3 j (by simp at hj; omega) (by omega)

/-- net.SplitHostPort returns, whatever the string -/
theorem split_ex (s : List UInt8) (hs : s.length ≤ 562949953421312) : ∃ o, ∀ w, Calls Tryd.prog 26 #[.string ⟨s.toArray⟩] w fun e w' => SplitBack w o e w' := by
  rcases split_last s with hn | ⟨i, hi⟩
  · exact ⟨none, fun w => split_none s w hs hn⟩
  have hlt : i < s.length := hi.1
  by_cases h0 : s[0] = 91
  · by_cases h1 : (93 : UInt8) ∈ s
    · obtain ⟨en, he, hel, he2, _⟩ := ix_some h1
      have hep : 0 < en := by
        rcases en with _ | en
        · rw [h0] at he2; cases he2
        · omega
      by_cases h2 : en + 1 = s.length
      · exact ⟨none, fun w => split_b2 s i w hs hi (fun _ => h0) en he hel hep h2⟩
      by_cases h3 : en + 1 = i
      · by_cases h4 : (91 : UInt8) ∈ s.drop 1
        · exact ⟨none, fun w => split_b5 s i w hs hi (fun _ => h0) en he hel hep h2 h3 h4⟩
        by_cases h5 : (93 : UInt8) ∈ s.drop (en + 1)
        · exact ⟨none, fun w => split_b6 s i w hs hi (fun _ => h0) en he hel hep h2 h3 h4 h5⟩
        · exact ⟨_, fun w => split_b7 s i w hs hi (fun _ => h0) en he hel hep h2 h3 h4 h5⟩
      · have h4 : en + 1 < s.length := by omega
        by_cases h5 : s[en + 1] = 58
        · exact ⟨none, fun w => split_b3 s i w hs hi (fun _ => h0) en he hel hep h2 h3 h4 h5⟩
        · exact ⟨none, fun w => split_b4 s i w hs hi (fun _ => h0) en he hel hep h2 h3 h4 h5⟩
    · exact ⟨none, fun w => split_b1 s i w hs hi (fun _ => h0) h1⟩
  · by_cases h1 : (58 : UInt8) ∈ s.take i
    · exact ⟨none, fun w => split_p1 s i w hs hi (fun _ => h0) h1⟩
    by_cases h2 : (91 : UInt8) ∈ s
    · exact ⟨none, fun w => split_p2 s i w hs hi (fun _ => h0) h1 h2⟩
    by_cases h3 : (93 : UInt8) ∈ s
    · exact ⟨none, fun w => split_p3 s i w hs hi (fun _ => h0) h1 h2 h3⟩
    · exact ⟨_, fun w => split_p4 s i w hs hi (fun _ => h0) h1 h2 h3⟩

/-- what impl.SplitHostPort gives -/
def SplitGives (w : World) (o : Option (List UInt8 × List UInt8)) (e : Ending) (w' : World) : Prop :=
  e = .returned (.tuple #[.string ⟨(o.getD ([], [])).1.toArray⟩, .string ⟨(o.getD ([], [])).2.toArray⟩, .bool o.isSome]) ∧ Below w.heap.size w w'

theorem implSplit_of (s : List UInt8) (o : Option (List UInt8 × List UInt8)) (h : ∀ w, Calls Tryd.prog 26 #[.string ⟨s.toArray⟩] w fun e w' => SplitBack w o e w') (w : World) :
    Calls Tryd.prog 15 #[.string ⟨s.toArray⟩] w fun e w' => SplitGives w o e w' := by
  have H := Lib.hid h
  clear h
  go_enter Tryd.func15, Tryd.ntmps15
  go_wp2_with fail
  refine (H.out _).mono ?_
  rintro e w1 (⟨hh, p, rfl, rfl, rfl⟩ | ⟨rfl, ⟨t, v, rfl⟩, hb⟩)
  · go_wp2
    go_ret3
    exact ⟨rfl, Below.refl _ _⟩
  · go_wp2
    go_ret3
    exact ⟨rfl, hb⟩

set_option maxHeartbeats 400000 in
theorem lawsHas_any (s : List UInt8) (c : UInt8) (w : World) (hs : s.length ≤ 562949953421312) (r : Bool) (hr : decide (c ∈ s) = r) :
    Calls Tryd.prog 14 #[.string ⟨s.toArray⟩, .int .u8 (c.toNat : Int)] w fun e w' => e = .returned (.bool r) ∧ w = w' := by
  have HR := Lib.hid hr
  clear hr
  go_enter Tryd.func14, Tryd.ntmps14
  go_wp2
  go_loop [5] (fun i => ∃ k : Nat, k ≤ s.length ∧ i = .int .i64 k ∧ Hid (∀ j (hj : j < s.length), j < k → s[j] ≠ c)) (fun i => s.length - (intOf i).toNat)
  case atStart => exact ⟨0, Nat.zero_le _, rfl, fun j _ h => absurd h (by omega)⟩
  case round =>
    obtain ⟨k, hk, rfl, HS⟩ := hrel
    by_cases hlt : k < s.length
    · by_cases he : s[k] = c
      · have t1 : (((({ data := s.toArray } : ByteArray)[k]'hlt).toNat : Int) == (c.toNat : Int)) = true := u8eq he
        go_wp2
        go_ret
        refine ⟨ret_bool ?_, rfl⟩
        rw [← HR.out, ← he]
        simp
      · have t1 : (((({ data := s.toArray } : ByteArray)[k]'hlt).toNat : Int) == (c.toNat : Int)) = false := u8ne he
        go_wp2
        go_round
        case rel =>
          refine ⟨k + 1, by omega, by go_num, fun j hj h => ?_⟩
          rcases Nat.lt_or_ge j k with h' | h'
          · exact HS.out j hj h'
          · obtain rfl : j = k := by omega
            exact he
        case measure => simp [intOf]; omega
    · go_wp2
      go_ret
      refine ⟨ret_bool ?_, rfl⟩
      rw [← HR.out]
      symm
      simp only [decide_eq_false_iff_not]
      intro hm
      obtain ⟨j, hj, e⟩ := List.getElem_of_mem hm
      exact HS.out j hj (by omega) e

/-- SplitHostPort of [host]:port -/
theorem split_bracket (h p : List UInt8) (hh : h.length ≤ 140737488351232) (hp : p.length ≤ 140737488351232) (a1 : (91 : UInt8) ∉ h) (a2 : (93 : UInt8) ∉ h) (a3 : (91 : UInt8) ∉ p) (a4 : (93 : UInt8) ∉ p) (a5 : (58 : UInt8) ∉ p) (w : World) :
    Calls Tryd.prog 26 #[.string ⟨(91 :: (h ++ 93 :: 58 :: p)).toArray⟩] w fun e w' => SplitBack w (some (h, p)) e w' := by
  generalize hs : 91 :: (h ++ 93 :: 58 :: p) = s
  have hl : s.length = h.length + p.length + 3 := by rw [← hs]; simp; omega
  have hlast : LastAt s 58 (h.length + 2) := by
    subst hs
    refine ⟨by simp; omega, by simp, fun j hj hlt e => ?_⟩
    obtain ⟨m, rfl⟩ : ∃ m, j = (h.length + (m + 2)) + 1 := ⟨j - (h.length + 2 + 1), by omega⟩
    apply a5
    have : (91 :: (h ++ 93 :: 58 :: p))[(h.length + (m + 2)) + 1] = p[m]'(by simp at hj; omega) := by
      simp only [List.getElem_cons_succ]
      rw [List.getElem_append_right (by omega)]
      simp
    rw [this] at e
    rw [← e]
    exact List.getElem_mem _
  have hix : Lib.indexByte s 93 = ((h.length + 1 : Nat) : Int) := by
    have hm : (93 : UInt8) ∈ s := by rw [← hs]; simp
    obtain ⟨k, hk, hkl, hk2, hk3⟩ := ix_some hm
    rw [hk]
    have h1 : h.length + 1 < s.length := by omega
    have e1 : s[h.length + 1] = 93 := by subst hs; simp
    rcases Nat.lt_trichotomy k (h.length + 1) with hlt | heq | hgt
    · exfalso
      subst hs
      rcases k with _ | k
      · simp at hk2
      · have hkh : k < h.length := by omega
        have : (91 :: (h ++ 93 :: 58 :: p))[k + 1] = h[k] := by
          simp only [List.getElem_cons_succ]
          rw [List.getElem_append_left hkh]
        rw [this] at hk2
        exact a2 (hk2 ▸ List.getElem_mem hkh)
    · rw [heq]
    · exact absurd e1 (hk3 _ hgt)
  have r1 : (91 : UInt8) ∉ s.drop 1 := by subst hs; simp [a1, a3]
  have r2 : (93 : UInt8) ∉ s.drop (h.length + 1 + 1) := by
    subst hs
    have : (91 :: (h ++ 93 :: 58 :: p)).drop (h.length + 1 + 1) = 58 :: p := by
      rw [List.drop_succ_cons, List.drop_append]
      simp
    rw [this]
    simp [a4]
  have r3 : (s.take (h.length + 1)).drop 1 = h := by subst hs; simp
  have r4 : s.drop (h.length + 2 + 1) = p := by
    subst hs
    rw [show h.length + 2 + 1 = (h.length + 2) + 1 from rfl, List.drop_succ_cons, List.drop_append]
    simp
  have := split_b7 s (h.length + 2) w (by omega) hlast (fun _ => by subst hs; rfl) (h.length + 1) hix (by omega) (by omega) (by omega) (by omega) r1 r2
  rw [r3, r4] at this
  exact this

/-- SplitHostPort of what JoinHostPort gives -/
theorem split_join (h p : List UInt8) (hh : h.length ≤ 140737488351232) (hp : p.length ≤ 140737488351232) (a1 : (91 : UInt8) ∉ h) (a2 : (93 : UInt8) ∉ h) (a3 : (91 : UInt8) ∉ p) (a4 : (93 : UInt8) ∉ p) (a5 : (58 : UInt8) ∉ p) (w : World) :
    Calls Tryd.prog 26 #[.string ⟨(join h p).toArray⟩] w fun e w' => SplitBack w (some (h, p)) e w' := by
  by_cases hc : (58 : UInt8) ∈ h
  · have hj : join h p = 91 :: (h ++ 93 :: 58 :: p) := by simp [join, hc]
    rw [hj]
    exact split_bracket h p hh hp a1 a2 a3 a4 a5 w
  · have hj : join h p = h ++ 58 :: p := by simp [join, hc]
    rw [hj]
    generalize hs : h ++ 58 :: p = s
    have hl : s.length = h.length + p.length + 1 := by rw [← hs]; simp; omega
    have hlast : LastAt s 58 h.length := by
      subst hs
      refine ⟨by simp, by simp, fun j hj hlt e => ?_⟩
      obtain ⟨m, rfl⟩ : ∃ m, j = h.length + 1 + m := ⟨j - (h.length + 1), by omega⟩
      apply a5
      have : (h ++ 58 :: p)[h.length + 1 + m] = p[m]'(by simp at hj; omega) := by
        rw [List.getElem_append_right (by omega)]
        simp only [show h.length + 1 + m - h.length = m + 1 by omega, List.getElem_cons_succ]
      rw [this] at e
      rw [← e]
      exact List.getElem_mem _
    have b1 : (91 : UInt8) ∉ s := by subst hs; simp [a1, a3]
    have b2 : (93 : UInt8) ∉ s := by subst hs; simp [a2, a4]
    have r1 : s.take h.length = h := by subst hs; simp
    have r2 : s.drop (h.length + 1) = p := by subst hs; rw [List.drop_append]; simp
    have := split_p4 s h.length w (by omega) hlast (fun hp e => b1 (e ▸ List.getElem_mem hp)) (by rw [r1]; exact hc) b1 b2
    rw [r1, r2] at this
    exact this
end Go.Proofs.YtkmjejgeeghjmaaDoor
