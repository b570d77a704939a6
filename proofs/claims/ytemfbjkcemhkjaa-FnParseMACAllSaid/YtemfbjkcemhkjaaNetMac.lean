/-
  Contracts of net.xtoi, net.xtoi2 on two small hexadecimal digits. No condition but the string's form.
-/
import Derived.Test.YtemfbjkcemhkjaaMacForm
import Derived.Test.YtemfbjkcemhkjaaBase
namespace Go.Proofs.Ytemfbjkcemhkjaa
open Go.RowKit
set_option linter.unusedVariables false

set_option maxHeartbeats 1000000 in
theorem xtoi_two (a b : Nat) (ha : a < 16) (hb : b < 16) (w : World) :
    Calls Try.prog 22 #[.string ⟨[dg a, dg b].toArray⟩] w fun e w' => e = .returned (.tuple #[.int .i64 (16 * (a : Int) + (b : Int)), .int .i64 2, .bool true]) ∧ w = w' := by
  have da := dg_digit a ha
  have db := dg_digit b hb
  generalize dg a = x at da ⊢
  generalize dg b = y at db ⊢
  rcases da with ⟨ea, la⟩ | ⟨ea, la⟩ <;> rcases db with ⟨eb, lb⟩ | ⟨eb, lb⟩
  all_goals
    have ea' : (x.toNat : Int) = _ := congrArg Int.ofNat ea
    have eb' : (y.toNat : Int) = _ := congrArg Int.ofNat eb
    simp only [Int.ofNat_eq_natCast, Int.natCast_add, Int.cast_ofNat_Int] at ea' eb'
    clear ea eb
    have i0 : ({ data := #[x, y] } : ByteArray)[0]'(by show 0 < 2; decide) = x := rfl
    have i1 : ({ data := #[x, y] } : ByteArray)[1]'(by show 1 < 2; decide) = y := rfl
    go_enter Try.func22, Try.ntmps22
    go_wp2
    go_loop [2, 3, 4] (fun n i o => o = .bool false ∧ ((i = .int .i64 0 ∧ n = .int .i64 0) ∨ (i = .int .i64 1 ∧ n = .int .i64 (a : Int)) ∨ (i = .int .i64 2 ∧ n = .int .i64 (16 * (a : Int) + (b : Int))))) (fun _ i _ => 2 - (intOf i).toNat)
    case atStart => exact ⟨rfl, .inl ⟨rfl, rfl⟩⟩
    case round =>
      obtain ⟨rfl, ⟨rfl, rfl⟩ | ⟨rfl, rfl⟩ | ⟨rfl, rfl⟩⟩ := hrel
      · go_wp2
        go_round
        case rel => exact ⟨rfl, .inr (.inl ⟨rfl, by go_num⟩)⟩
        case measure => simp [intOf]
      · go_wp2
        go_round
        case rel => exact ⟨rfl, .inr (.inr ⟨rfl, by go_num⟩)⟩
        case measure => simp [intOf]
      · go_wp2
        go_ret3
        exact ⟨rfl, rfl⟩

set_option maxHeartbeats 1000000 in
theorem xtoi2_two (a b : Nat) (rest : List UInt8) (e : UInt8) (ha : a < 16) (hb : b < 16) (hr : rest = [] ∨ ∃ r, rest = e :: r) (hl : rest.length ≤ 140737488351232) (w : World) :
    Calls Try.prog 20 #[.string ⟨(dg a :: dg b :: rest).toArray⟩, .int .u8 (e.toNat : Int)] w fun x w' => x = .returned (.tuple #[.int .u8 (16 * (a : Int) + (b : Int)), .bool true]) ∧ w = w' := by
  have hcut : ({ data := (dg a :: dg b :: rest).toArray } : ByteArray).extract 0 2 = ⟨[dg a, dg b].toArray⟩ := by rw [ba_cut]; rfl
  rcases hr with rfl | ⟨r, rfl⟩
  · go_enter Try.func20, Try.ntmps20
    go_wp2_with fail
    refine (xtoi_two a b ha hb _).mono ?_
    rintro x w' ⟨rfl, rfl⟩
    go_wp2
    go_ret2
    exact ⟨rfl, rfl⟩
  · have i2 : ({ data := (dg a :: dg b :: e :: r).toArray } : ByteArray)[2]'(by show 2 < (dg a :: dg b :: e :: r).length; simp) = e := rfl
    simp only [List.length_cons] at hl
    go_enter Try.func20, Try.ntmps20
    go_wp2_with fail
    refine (xtoi_two a b ha hb _).mono ?_
    rintro x w' ⟨rfl, rfl⟩
    go_wp2
    go_ret2
    exact ⟨rfl, rfl⟩
end Go.Proofs.Ytemfbjkcemhkjaa
