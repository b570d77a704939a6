/-
  Contracts of netip.ParseAddr, net.parseIP, net.ParseIP and impl.ParseIP for texts that are read. No condition.
-/
import Derived.Test.YtkmjejgeeghjmaaDoorP6A
import Derived.Test.YtkmjejgeeghjmaaDoorP6B
namespace Go.Proofs.YtkmjejgeeghjmaaDoor
open Go.RowKit
set_option linter.unusedVariables false

/-- a text that is read, and its address in 16 bytes -/
def Reads (s out : List UInt8) : Prop := (∃ dot, T6 dot s out) ∨ ∃ xs, xs.length = 4 ∧ s = dot4 xs ∧ out = mp ++ xs
theorem Reads.len {s out : List UInt8} (h : Reads s out) : out.length = 16 := by
  rcases h with ⟨dot, h⟩ | ⟨xs, h1, _, rfl⟩
  · exact h.out
  · simp [mp, h1]

set_option maxRecDepth 100000 in
set_option maxHeartbeats 4000000 in
theorem p6_zeros (p4 p6 : Addr) (w : World) (hz : ZF w p4 p6) :
    Calls Tryd.prog 52 #[.string ⟨#[58, 58]⟩] w fun e w' => e = .returned (.tuple #[addrV 0 0 (some p6), .nilIface]) ∧ Below w.heap.size w w' := by
  have hix : ∀ w : World, (callFunc 34 #[.string ⟨#[58, 58]⟩, .int .u8 37]).run Tryd.prog w = .ok (.value (.int .i64 (-1))) w := fun w => by
    have := idx_run [58, 58] 37 w
    rwa [ix_none (by decide)] at this
  have b0 : (⟨#[58, 58]⟩ : ByteArray)[0]'(by decide) = 58 := rfl
  have b1 : (⟨#[58, 58]⟩ : ByteArray)[1]'(by decide) = 58 := rfl
  have bc : (⟨#[58, 58]⟩ : ByteArray).extract 2 2 = ⟨#[]⟩ := by rfl
  have fu := fun (W' : World) (hz : ZF W' p4 p6) => unspec_any p4 p6 W' hz
  have fz := fun (W' : World) (hz : ZF W' p4 p6) => withZone_6 0 0 p4 p6 W' hz
  unfold addrV at fu fz ⊢
  have FU := Lib.hid fu
  have FZ := Lib.hid fz
  clear fu fz
  go_enter Tryd.func52, Tryd.ntmps52
  go_wp2_with fail
  refine (FU.out _ ?hz1).mono ?_
  case hz1 => exact hz.below (by go_grown)
  rintro e w2 ⟨rfl, hb2⟩
  have z2 : ZF w2 p4 p6 := by
    refine hz.below (Below.trans ?_ (hb2.mono ?_))
    · go_grown
    · simp; omega
  go_wp2_with fail
  refine (FZ.out _ z2).mono ?_
  rintro e w3 ⟨rfl, hb3'⟩
  have hb3 := hb2.trans (hb3'.mono hb2.size)
  have hs3 := hb3.size
  simp at hs3
  have c0 := (hb3.cell (p := ⟨w.heap.size, 0, none⟩) (by simp; omega))
  have c1 := (hb3.cell (p := ⟨w.heap.size, 1, none⟩) (by simp; omega))
  have c2 := (hb3.cell (p := ⟨w.heap.size, 2, none⟩) (by simp; omega))
  have f0 := (hb3.frozen (p := ⟨w.heap.size, 0, none⟩) (by simp; omega))
  have f1 := (hb3.frozen (p := ⟨w.heap.size, 1, none⟩) (by simp; omega))
  have f2 := (hb3.frozen (p := ⟨w.heap.size, 2, none⟩) (by simp; omega))
  simp at c0 c1 c2 f0 f1 f2
  obtain ⟨g0, g1, g2⟩ := set3 (.int .u64 0) (.int .u64 0) (.pointer (some p6)) c0 c1 c2
  have hbB : Below w.heap.size w w3 := by
    refine Below.trans ?_ (hb3.mono ?_)
    · go_grown
    · simp; omega
  go_wp2
  refine bodyPost_ret (v := .tuple #[.agg #[.int .u64 0, .int .u64 0, .pointer (some p6)], .nilIface]) (by simp [results, Tryd.results52, go_sem, g0, g1, g2]) rfl ⟨rfl, ?_⟩
  exact ((hbB.setCell (p := ⟨w.heap.size, 0, none⟩) (Nat.le_refl _) _).setCell (p := ⟨w.heap.size, 1, none⟩) (Nat.le_refl _) _).setCell (p := ⟨w.heap.size, 2, none⟩) (Nat.le_refl _) _

theorem p6_any {dot : Bool} {s out : List UInt8} (h : T6 dot s out) (p4 p6 : Addr) (w : World) (hz : ZF w p4 p6) :
    Calls Tryd.prog 52 #[.string ⟨s.toArray⟩] w fun e w' => e = .returned (.tuple #[addrV (be (out.take 8)) (be (out.drop 8)) (some p6), .nilIface]) ∧ Below w.heap.size w w' := by
  cases h with
  | zeros => exact p6_zeros p4 p6 w hz
  | front hr h => exact p6_front dot _ out p4 p6 w hz hr h
  | plain h => exact p6_plain dot s out p4 p6 w hz h

/-- the loop of ParseAddr: nothing at the front of the text is a dot, a colon or a percent sign -/
theorem clean_at {t r : List UInt8} {x : UInt8} (ht : ∀ c ∈ t, c ≠ 58 ∧ c ≠ 46 ∧ c ≠ 37) (k : Nat) (hk : k < t.length) : ∃ c, ∃ h : k < (t ++ x :: r).length, (t ++ x :: r)[k] = c ∧ c ≠ 58 ∧ c ≠ 46 ∧ c ≠ 37 := by
  refine ⟨t[k], by simp; omega, ?_, ht _ (List.getElem_mem hk)⟩
  rw [List.getElem_append_left hk]
theorem sep_at (t r : List UInt8) (x : UInt8) : ∃ h : t.length < (t ++ x :: r).length, (t ++ x :: r)[t.length] = x := ⟨by simp, by simp⟩

set_option maxRecDepth 100000 in
set_option maxHeartbeats 4000000 in
theorem parseAddr_6 {dot : Bool} {s out : List UInt8} (h : T6 dot s out) (p4 p6 : Addr) (w : World) (hz : ZF w p4 p6) :
    Calls Tryd.prog 41 #[.string ⟨s.toArray⟩] w fun e w' => e = .returned (.tuple #[addrV (be (out.take 8)) (be (out.drop 8)) (some p6), .nilIface]) ∧ Below w.heap.size w w' := by
  have hlen := h.len
  have fp := fun (W' : World) (hz : ZF W' p4 p6) => p6_any h p4 p6 W' hz
  obtain ⟨t, r, hs, ht⟩ := h.colon
  have hat := fun k (hk : k < t.length) => clean_at (r := r) (x := 58) ht k hk
  have hsep := sep_at t r 58
  rw [← hs] at hat hsep
  obtain ⟨hsp, hse⟩ := hsep
  have HAT := Lib.hid hat
  clear hat hs ht h
  generalize be (out.take 8) = hh at fp ⊢
  generalize be (out.drop 8) = ll at fp ⊢
  unfold addrV at fp ⊢
  have FP := Lib.hid fp
  clear fp
  go_enter Tryd.func41, Tryd.ntmps41
  go_wp2
  go_loop [4] (fun i => ∃ k : Nat, k ≤ t.length ∧ i = .int .i64 (k : Int)) (fun i => t.length - (intOf i).toNat)
  case atStart => exact ⟨0, by omega, rfl⟩
  case round =>
    obtain ⟨k, hk, rfl⟩ := hrel
    by_cases hlt : k < t.length
    · obtain ⟨c, hkl, hc, n1, n2, n3⟩ := HAT.out k hlt
      have hba := ba_at hkl hc
      have m1 : ((c.toNat : Int) == 58) = false := u8ne (y := 58) n1
      have m2 : ((c.toNat : Int) == 46) = false := u8ne (y := 46) n2
      have m3 : ((c.toNat : Int) == 37) = false := u8ne (y := 37) n3
      clear hc n1 n2 n3
      go_wp2
      go_round
      case rel => exact ⟨k + 1, by omega, by go_num⟩
      case measure => simp [intOf]; omega
    · obtain rfl : k = t.length := by omega
      have hba := ba_at hsp hse
      clear hse hlt hk
      go_wp2_with fail
      refine (FP.out _ (hz.alloc _)).mono ?_
      rintro e w2 ⟨rfl, hb2⟩
      have hs2 := hb2.size
      simp at hs2
      have c0 := (hb2.cell (p := ⟨w.heap.size, 0, none⟩) (by simp))
      have c1 := (hb2.cell (p := ⟨w.heap.size, 1, none⟩) (by simp))
      have c2 := (hb2.cell (p := ⟨w.heap.size, 2, none⟩) (by simp))
      have f0 := (hb2.frozen (p := ⟨w.heap.size, 0, none⟩) (by simp))
      have f1 := (hb2.frozen (p := ⟨w.heap.size, 1, none⟩) (by simp))
      have f2 := (hb2.frozen (p := ⟨w.heap.size, 2, none⟩) (by simp))
      simp at c0 c1 c2 f0 f1 f2
      obtain ⟨g0, g1, g2⟩ := set3 (.int .u64 (hh : Int)) (.int .u64 (ll : Int)) (.pointer (some p6)) c0 c1 c2
      have hbB : Below w.heap.size w w2 := ((Below.refl _ _).alloc (Nat.le_refl _) _).trans (hb2.mono (by simp))
      go_wp2
      refine bodyPost_ret (v := .tuple #[.agg #[.int .u64 (hh : Int), .int .u64 (ll : Int), .pointer (some p6)], .nilIface]) (by simp [results, Tryd.results41, go_sem, g0, g1, g2]) rfl ⟨rfl, ?_⟩
      exact ((hbB.setCell (p := ⟨w.heap.size, 0, none⟩) (Nat.le_refl _) _).setCell (p := ⟨w.heap.size, 1, none⟩) (Nat.le_refl _) _).setCell (p := ⟨w.heap.size, 2, none⟩) (Nat.le_refl _) _

set_option maxRecDepth 100000 in
set_option maxHeartbeats 4000000 in
theorem parseAddr_4 (xs : List UInt8) (hx : xs.length = 4) (p4 p6 : Addr) (w : World) (hz : ZF w p4 p6) :
    Calls Tryd.prog 41 #[.string ⟨(dot4 xs).toArray⟩] w fun e w' => e = .returned (.tuple #[addrV 0 (lo4 xs) (some p4), .nilIface]) ∧ Below w.heap.size w w' := by
  have hlen := dot4_len xs
  have fp := fun (W' : World) (hz : ZF W' p4 p6) => parse4_any xs p4 p6 W' hz hx
  obtain ⟨t, r, hs, ht⟩ : ∃ t r, dot4 xs = t ++ 46 :: r ∧ ∀ c ∈ t, c ≠ 58 ∧ c ≠ 46 ∧ c ≠ 37 := ⟨_, _, rfl, dec_clean _ (xs.getD 0 0).toNat_lt⟩
  have hat := fun k (hk : k < t.length) => clean_at (r := r) (x := 46) ht k hk
  have hsep := sep_at t r 46
  rw [← hs] at hat hsep
  obtain ⟨hsp, hse⟩ := hsep
  generalize dot4 xs = s at hat hsp hse hlen fp ⊢
  have HAT := Lib.hid hat
  clear hat hs ht
  generalize lo4 xs = ll at fp ⊢
  unfold addrV at fp ⊢
  have FP := Lib.hid fp
  clear fp hx
  go_enter Tryd.func41, Tryd.ntmps41
  go_wp2
  go_loop [4] (fun i => ∃ k : Nat, k ≤ t.length ∧ i = .int .i64 (k : Int)) (fun i => t.length - (intOf i).toNat)
  case atStart => exact ⟨0, by omega, rfl⟩
  case round =>
    obtain ⟨k, hk, rfl⟩ := hrel
    by_cases hlt : k < t.length
    · obtain ⟨c, hkl, hc, n1, n2, n3⟩ := HAT.out k hlt
      have hba := ba_at hkl hc
      have m1 : ((c.toNat : Int) == 58) = false := u8ne (y := 58) n1
      have m2 : ((c.toNat : Int) == 46) = false := u8ne (y := 46) n2
      have m3 : ((c.toNat : Int) == 37) = false := u8ne (y := 37) n3
      clear hc n1 n2 n3
      go_wp2
      go_round
      case rel => exact ⟨k + 1, by omega, by go_num⟩
      case measure => simp [intOf]; omega
    · obtain rfl : k = t.length := by omega
      have hba := ba_at hsp hse
      clear hse hlt hk
      go_wp2_with fail
      refine (FP.out _ (hz.alloc _)).mono ?_
      rintro e w2 ⟨rfl, hb2⟩
      have hs2 := hb2.size
      simp at hs2
      have c0 := (hb2.cell (p := ⟨w.heap.size, 0, none⟩) (by simp))
      have c1 := (hb2.cell (p := ⟨w.heap.size, 1, none⟩) (by simp))
      have c2 := (hb2.cell (p := ⟨w.heap.size, 2, none⟩) (by simp))
      have f0 := (hb2.frozen (p := ⟨w.heap.size, 0, none⟩) (by simp))
      have f1 := (hb2.frozen (p := ⟨w.heap.size, 1, none⟩) (by simp))
      have f2 := (hb2.frozen (p := ⟨w.heap.size, 2, none⟩) (by simp))
      simp at c0 c1 c2 f0 f1 f2
      obtain ⟨g0, g1, g2⟩ := set3 (.int .u64 0) (.int .u64 (ll : Int)) (.pointer (some p4)) c0 c1 c2
      have hbB : Below w.heap.size w w2 := ((Below.refl _ _).alloc (Nat.le_refl _) _).trans (hb2.mono (by simp))
      go_wp2
      refine bodyPost_ret (v := .tuple #[.agg #[.int .u64 0, .int .u64 (ll : Int), .pointer (some p4)], .nilIface]) (by simp [results, Tryd.results41, go_sem, g0, g1, g2]) rfl ⟨rfl, ?_⟩
      exact ((hbB.setCell (p := ⟨w.heap.size, 0, none⟩) (Nat.le_refl _) _).setCell (p := ⟨w.heap.size, 1, none⟩) (Nat.le_refl _) _).setCell (p := ⟨w.heap.size, 2, none⟩) (Nat.le_refl _) _
end Go.Proofs.YtkmjejgeeghjmaaDoor
