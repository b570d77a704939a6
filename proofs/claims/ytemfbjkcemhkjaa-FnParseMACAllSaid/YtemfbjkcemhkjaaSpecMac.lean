/-
  Contracts of spec.ParseMAC (where it says yes, the string is in a listed format), of impl.ParseMAC on such strings, and of laws.digits. Condition: the length (2^47).
-/
import Derived.Test.YtemfbjkcemhkjaaPieces
import Derived.Test.YtemfbjkcemhkjaaParseMac2
import Derived.Lib.SlBytesConst
namespace Go.Proofs.Ytemfbjkcemhkjaa
open Go.RowKit
set_option linter.unusedVariables false

/-- a string in a listed format, and its bytes -/
def MacForm (s hw : List UInt8) : Prop := (hw.length = 6 ∧ s = hex hw) ∨ ((hw.length = 6 ∨ hw.length = 8 ∨ hw.length = 20) ∧ (s = tx 58 1 hw ∨ s = tx 45 1 hw ∨ s = tx 46 2 hw))
theorem MacForm.len {s hw : List UInt8} (h : MacForm s hw) : hw.length = 6 ∨ hw.length = 8 ∨ hw.length = 20 := by
  rcases h with ⟨h, _⟩ | ⟨h, _⟩
  · exact .inl h
  · exact h
theorem MacForm.digs {s hw : List UInt8} (h : MacForm s hw) : digs3 s = hex hw := by
  rcases h with ⟨_, h⟩ | ⟨_, h | h | h⟩
  · rw [h, digs3_hex]
  all_goals rw [h]; exact digs3_txFrom _ _ _ _ (by simp)
theorem txFrom_ge (sign : UInt8) (b : Nat) (xs : List UInt8) (i : Nat) : 2 * xs.length ≤ (txFrom sign b i xs).length := by
  induction xs generalizing i with
  | nil => simp [txFrom]
  | cons x xs ih => simp only [txFrom, List.length_append, List.length_cons]; have := ih (i + 1); simp [hex2]; omega
theorem tx6 (hw : List UInt8) (h : (tx 0 6 hw).length = 12) : hw.length = 6 ∧ tx 0 6 hw = hex hw := by
  have h1 := txFrom_ge 0 6 hw 0
  unfold tx at h ⊢
  match hw with
  | [] => simp [txFrom] at h
  | [a] => simp [txFrom, hex2] at h
  | [a, b] => simp [txFrom, hex2] at h
  | [a, b, c] => simp [txFrom, hex2] at h
  | [a, b, c, d] => simp [txFrom, hex2] at h
  | [a, b, c, d, e] => simp [txFrom, hex2] at h
  | [a, b, c, d, e, f] => simp [txFrom, hex]
  | a :: b :: c :: d :: e :: f :: g :: r => simp only [List.length_cons] at h1; omega
/-- what spec.ParseMAC gives -/
def SPMac (s : List UInt8) (w : World) (e : Ending) (w' : World) : Prop :=
  ∃ A n c r, e = .returned (.tuple #[.slice A n c, .bool r]) ∧ Below w.heap.size w w' ∧ (r = true → ∃ hw, hw.length = n ∧ MacForm s hw ∧ w'.ownsRow w.heap.size 5 1 (.slice A n c) hw.length (cb hw))

set_option maxHeartbeats 1000000 in
theorem specMac_12 (s : List UInt8) (w : World) (hs : s.length = 12) : Calls Try.prog 7 #[.string ⟨s.toArray⟩] w fun e w' => SPMac s w e w' := by
  have HS := Lib.hid hs
  go_enter Try.func7, Try.ntmps7
  go_wp2_with fail
  refine (pieces12_any s 0 _ (by rw [HS.out]; decide)).mono ?_
  rintro e w1 ⟨A1, n1, c1, r1, rfl, hb1, hr1⟩
  have HR := Lib.hid hr1
  clear hr1
  go_wp2
  go_ret2
  refine ⟨A1, n1, c1, r1, rfl, hb1, fun h => ?_⟩
  obtain ⟨out, e1, e2, e3⟩ := HR.out h
  obtain ⟨e4, e5⟩ := tx6 out (by rw [← e2]; exact HS.out)
  exact ⟨out, e1, .inl ⟨e4, e2.trans e5⟩, e3⟩

set_option maxHeartbeats 2000000 in
theorem specMac_other (s : List UInt8) (w : World) (hs : s.length ≠ 12) (hl : s.length ≤ 140737488351232) : Calls Try.prog 7 #[.string ⟨s.toArray⟩] w fun e w' => SPMac s w e w' := by
  have t0 : ((s.length : Int) == 12) = false := by simp; omega
  clear hs
  have kc := fun (w : World) (C : Array Value) (n c : Nat) => Lib.run_convert_bytes_const (P := Try.prog) w 22 5 C n c Try.underlying22 Try.underlying5
  go_enter Try.func7, Try.ntmps7
  go_wp2
  go_loopw [19, 2, 3] (fun i p q wr => ∃ k : Nat, k ≤ 3 ∧ i = .int .i64 k ∧ p = .slice none 0 0 ∧ q = .bool false ∧ Below w.heap.size w wr ∧ w.heap.size < wr.heap.size ∧ wr.cell? ⟨w.heap.size, 0, none⟩ = some (.int .u8 58) ∧ wr.cell? ⟨w.heap.size, 1, none⟩ = some (.int .u8 45) ∧ wr.cell? ⟨w.heap.size, 2, none⟩ = some (.int .u8 46)) (fun i _ _ _ => 3 - (intOf i).toNat)
  case atStart => exact ⟨0, by decide, rfl, rfl, rfl, (Below.refl _ _).alloc (Nat.le_refl _) _, by simp, cell_of_row _ _ 0 _ _ _ (heap_alloc_new w _), cell_of_row _ _ 1 _ _ _ (heap_alloc_new w _), cell_of_row _ _ 2 _ _ _ (heap_alloc_new w _)⟩
  case round =>
    obtain ⟨k, hk, rfl, rfl, rfl, hb, hlt, q0, q1, q2⟩ := hrel
    rcases k with _ | _ | _ | _ | k
    · go_wp2_with fail
      refine (pieces2_any s 58 _ hl).mono ?_
      rintro e w1 ⟨A1, n1, c1, r1, rfl, hb1, hr1⟩
      have HR := Lib.hid hr1
      clear hr1
      have hs1 := hb1.size
      have g0 := (hb1.cell (p := ⟨w.heap.size, 0, none⟩) hlt).trans q0
      have g1 := (hb1.cell (p := ⟨w.heap.size, 1, none⟩) hlt).trans q1
      have g2 := (hb1.cell (p := ⟨w.heap.size, 2, none⟩) hlt).trans q2
      rcases r1 with _ | _
      · go_wp2
        go_roundw
        case rel => exact ⟨1, by decide, rfl, rfl, rfl, hb.trans (hb1.mono hb.size), by omega, g0, g1, g2⟩
        case measure => simp [intOf]
      by_cases h6 : n1 = 6
      · subst h6
        go_wp2
        go_ret2
        exact ⟨A1, _, c1, true, rfl, hb.trans (hb1.mono hb.size), fun _ => by
          obtain ⟨out, e1, e2, e3⟩ := HR.out (by simp)
          exact ⟨out, e1, .inr ⟨by rw [e1]; exact .inl rfl, .inl e2⟩, own_mono e3 hb.size⟩⟩
      have t6 : ((n1 : Int) == 6) = false := by simp; omega
      by_cases h8 : n1 = 8
      · subst h8
        go_wp2
        go_ret2
        exact ⟨A1, _, c1, true, rfl, hb.trans (hb1.mono hb.size), fun _ => by
          obtain ⟨out, e1, e2, e3⟩ := HR.out (by simp)
          exact ⟨out, e1, .inr ⟨by rw [e1]; exact .inr (.inl rfl), .inl e2⟩, own_mono e3 hb.size⟩⟩
      have t8 : ((n1 : Int) == 8) = false := by simp; omega
      by_cases h20 : n1 = 20
      · subst h20
        go_wp2
        go_ret2
        exact ⟨A1, _, c1, true, rfl, hb.trans (hb1.mono hb.size), fun _ => by
          obtain ⟨out, e1, e2, e3⟩ := HR.out (by simp)
          exact ⟨out, e1, .inr ⟨by rw [e1]; exact .inr (.inr rfl), .inl e2⟩, own_mono e3 hb.size⟩⟩
      have t20 : ((n1 : Int) == 20) = false := by simp; omega
      clear h6 h8 h20
      go_wp2
      go_roundw
      case rel => exact ⟨1, by decide, rfl, rfl, rfl, hb.trans (hb1.mono hb.size), by omega, g0, g1, g2⟩
      case measure => simp [intOf]
    · go_wp2_with fail
      refine (pieces2_any s 45 _ hl).mono ?_
      rintro e w1 ⟨A1, n1, c1, r1, rfl, hb1, hr1⟩
      have HR := Lib.hid hr1
      clear hr1
      have hs1 := hb1.size
      have g0 := (hb1.cell (p := ⟨w.heap.size, 0, none⟩) hlt).trans q0
      have g1 := (hb1.cell (p := ⟨w.heap.size, 1, none⟩) hlt).trans q1
      have g2 := (hb1.cell (p := ⟨w.heap.size, 2, none⟩) hlt).trans q2
      rcases r1 with _ | _
      · go_wp2
        go_roundw
        case rel => exact ⟨2, by decide, rfl, rfl, rfl, hb.trans (hb1.mono hb.size), by omega, g0, g1, g2⟩
        case measure => simp [intOf]
      by_cases h6 : n1 = 6
      · subst h6
        go_wp2
        go_ret2
        exact ⟨A1, _, c1, true, rfl, hb.trans (hb1.mono hb.size), fun _ => by
          obtain ⟨out, e1, e2, e3⟩ := HR.out (by simp)
          exact ⟨out, e1, .inr ⟨by rw [e1]; exact .inl rfl, .inr (.inl e2)⟩, own_mono e3 hb.size⟩⟩
      have t6 : ((n1 : Int) == 6) = false := by simp; omega
      by_cases h8 : n1 = 8
      · subst h8
        go_wp2
        go_ret2
        exact ⟨A1, _, c1, true, rfl, hb.trans (hb1.mono hb.size), fun _ => by
          obtain ⟨out, e1, e2, e3⟩ := HR.out (by simp)
          exact ⟨out, e1, .inr ⟨by rw [e1]; exact .inr (.inl rfl), .inr (.inl e2)⟩, own_mono e3 hb.size⟩⟩
      have t8 : ((n1 : Int) == 8) = false := by simp; omega
      by_cases h20 : n1 = 20
      · subst h20
        go_wp2
        go_ret2
        exact ⟨A1, _, c1, true, rfl, hb.trans (hb1.mono hb.size), fun _ => by
          obtain ⟨out, e1, e2, e3⟩ := HR.out (by simp)
          exact ⟨out, e1, .inr ⟨by rw [e1]; exact .inr (.inr rfl), .inr (.inl e2)⟩, own_mono e3 hb.size⟩⟩
      have t20 : ((n1 : Int) == 20) = false := by simp; omega
      clear h6 h8 h20
      go_wp2
      go_roundw
      case rel => exact ⟨2, by decide, rfl, rfl, rfl, hb.trans (hb1.mono hb.size), by omega, g0, g1, g2⟩
      case measure => simp [intOf]
    · go_wp2_with fail
      refine (pieces4_any s 46 _ hl).mono ?_
      rintro e w1 ⟨A1, n1, c1, r1, rfl, hb1, hr1⟩
      have HR := Lib.hid hr1
      clear hr1
      have hs1 := hb1.size
      have g0 := (hb1.cell (p := ⟨w.heap.size, 0, none⟩) hlt).trans q0
      have g1 := (hb1.cell (p := ⟨w.heap.size, 1, none⟩) hlt).trans q1
      have g2 := (hb1.cell (p := ⟨w.heap.size, 2, none⟩) hlt).trans q2
      rcases r1 with _ | _
      · go_wp2
        go_roundw
        case rel => exact ⟨3, by decide, rfl, rfl, rfl, hb.trans (hb1.mono hb.size), by omega, g0, g1, g2⟩
        case measure => simp [intOf]
      by_cases h6 : n1 = 6
      · subst h6
        go_wp2
        go_ret2
        exact ⟨A1, _, c1, true, rfl, hb.trans (hb1.mono hb.size), fun _ => by
          obtain ⟨out, e1, e2, e3⟩ := HR.out (by simp)
          exact ⟨out, e1, .inr ⟨by rw [e1]; exact .inl rfl, .inr (.inr e2)⟩, own_mono e3 hb.size⟩⟩
      have t6 : ((n1 : Int) == 6) = false := by simp; omega
      by_cases h8 : n1 = 8
      · subst h8
        go_wp2
        go_ret2
        exact ⟨A1, _, c1, true, rfl, hb.trans (hb1.mono hb.size), fun _ => by
          obtain ⟨out, e1, e2, e3⟩ := HR.out (by simp)
          exact ⟨out, e1, .inr ⟨by rw [e1]; exact .inr (.inl rfl), .inr (.inr e2)⟩, own_mono e3 hb.size⟩⟩
      have t8 : ((n1 : Int) == 8) = false := by simp; omega
      by_cases h20 : n1 = 20
      · subst h20
        go_wp2
        go_ret2
        exact ⟨A1, _, c1, true, rfl, hb.trans (hb1.mono hb.size), fun _ => by
          obtain ⟨out, e1, e2, e3⟩ := HR.out (by simp)
          exact ⟨out, e1, .inr ⟨by rw [e1]; exact .inr (.inr rfl), .inr (.inr e2)⟩, own_mono e3 hb.size⟩⟩
      have t20 : ((n1 : Int) == 20) = false := by simp; omega
      clear h6 h8 h20
      go_wp2
      go_roundw
      case rel => exact ⟨3, by decide, rfl, rfl, rfl, hb.trans (hb1.mono hb.size), by omega, g0, g1, g2⟩
      case measure => simp [intOf]
    · go_wp2
      go_ret2
      exact ⟨none, 0, 0, false, rfl, hb, fun h => by cases h⟩
    · omega

theorem specMac_any (s : List UInt8) (w : World) (hl : s.length ≤ 140737488351232) : Calls Try.prog 7 #[.string ⟨s.toArray⟩] w fun e w' => SPMac s w e w' := by
  by_cases h : s.length = 12
  · exact specMac_12 s w h
  · exact specMac_other s w h hl

/-- net.ParseMAC on a string in a listed format -/
theorem netMac_any (s hw : List UInt8) (w : World) (h : MacForm s hw) : Calls Try.prog 16 #[.string ⟨s.toArray⟩] w fun e w' => MacBack hw.length w hw e w' := by
  rcases h with ⟨hn, hs⟩ | ⟨hn | hn | hn, hs | hs | hs⟩
  · rw [hn]; exact parseMAC_hex_6 hw s hn hs w
  · rw [hn]; exact parseMAC_58_6 hw s hn hs w
  · rw [hn]; exact parseMAC_45_6 hw s hn hs w
  · rw [hn]; exact parseMAC_dots_6 hw s hn hs w
  · rw [hn]; exact parseMAC_58_8 hw s hn hs w
  · rw [hn]; exact parseMAC_45_8 hw s hn hs w
  · rw [hn]; exact parseMAC_dots_8 hw s hn hs w
  · rw [hn]; exact parseMAC_58_20 hw s hn hs w
  · rw [hn]; exact parseMAC_45_20 hw s hn hs w
  · rw [hn]; exact parseMAC_dots_20 hw s hn hs w

set_option maxHeartbeats 400000 in
/-- impl.ParseMAC on a string in a listed format -/
theorem implMac_any (s hw : List UInt8) (w : World) (h : MacForm s hw) : Calls Try.prog 8 #[.string ⟨s.toArray⟩] w fun e w' => OwnOpt 5 w (some hw) e w' := by
  have HL := Lib.hid h.len
  have hle : hw.length ≤ 20 := by have := h.len; omega
  have H := Lib.hid h
  clear h
  go_enter Try.func8, Try.ntmps8
  go_wp2_with fail
  refine (netMac_any s hw _ H.out).mono ?_
  rintro e w1 ⟨rfl, hown1, hb1⟩
  go_wp2_with fail
  refine (plain_any _ _ _ hw _ rfl (by exact Rd.of_own hown1) (by omega)).mono ?_
  rintro e w2 ⟨A2, n2, c2, rfl, hn2, hown2, hb2⟩
  have HN := Lib.hid hn2
  clear hn2
  go_wp2
  go_ret2
  exact OwnOpt.some_ rfl HN.out hown2 hb2 hb1
end Go.Proofs.Ytemfbjkcemhkjaa
