/-
  Contract of netip.parseIPv4 for dotted decimal. No condition.
-/
import Derived.Test.YtkmjejgeeghjmaaDoorV4F
import Derived.Handy
namespace Go.Proofs.YtkmjejgeeghjmaaDoor
open Go.RowKit
set_option linter.unusedVariables false

theorem ba_whole (l : List UInt8) : (⟨l.toArray⟩ : ByteArray).extract 0 l.length = ⟨l.toArray⟩ := by
  rw [ba_cut]; simp
theorem own_new (w : World) (t : TypeId) (xs : List UInt8) (n base : Nat) (hn : xs.length = n) (hb : base ≤ w.heap.size) (hm : n ≤ 281474976710656) (cs : Array Value) (hcs : cs = (cb xs).toArray) : (w.alloc (.cells cs t)).ownsRow base t 1 (.slice (some ⟨w.heap.size, 0, none⟩) n n) xs.length (cb xs) := by
  subst hcs
  exact block_own (heap_alloc_new w _) hb hn hm
theorem own_newAt {w : World} {t : TypeId} (xs : List UInt8) {n base k : Nat} {cs : Array Value} (hk : w.heap.size = k) (hn : xs.length = n) (hb : base ≤ k) (hm : n ≤ 281474976710656) (hcs : cs = (cb xs).toArray) : (w.alloc (.cells cs t)).ownsRow base t 1 (.slice (some ⟨k, 0, none⟩) n n) xs.length (cb xs) := by
  subst hk
  exact own_new w t xs n base hn hb hm cs hcs

set_option maxRecDepth 100000 in
set_option maxHeartbeats 4000000 in
theorem parse4_any (xs : List UInt8) (p4 p6 : Addr) (w : World) (hz : ZF w p4 p6) (hxs : xs.length = 4) :
    Calls Tryd.prog 51 #[.string ⟨(dot4 xs).toArray⟩] w fun e w' => e = .returned (.tuple #[addrV 0 (lo4 xs) (some p4), .nilIface]) ∧ Below w.heap.size w w' := by
  have hlen := dot4_len xs
  have fv := fun (W : World) (base B : Nat) (hown : W.ownsRow base 81 1 (.slice (some ⟨B, 0, none⟩) 4 4) ([0, 0, 0, 0] : List UInt8).length (cb [0, 0, 0, 0])) => v4f_any ⟨(dot4 xs).toArray⟩ 0 (dot4 xs).length B 0 4 4 base [0, 0, 0, 0] xs W (by simp [ByteArray.size]; omega) (by omega) (by simp [ByteArray.size]) (ba_whole _) hxs 81 hown rfl (by omega)
  generalize dot4 xs = l at fv hlen ⊢
  match xs, hxs with
  | [x0, x1, x2, x3], _ =>
    have fr := fun (W : World) (hz : ZF W p4 p6) => from4_any [x0, x1, x2, x3] p4 p6 W rfl hz
    have ecb : (cb [x0, x1, x2, x3]).toArray = #[.int .u8 (x0.toNat : Int), .int .u8 (x1.toNat : Int), .int .u8 (x2.toNat : Int), .int .u8 (x3.toNat : Int)] := rfl
    rw [ecb] at fr
    clear ecb
    generalize lo4 [x0, x1, x2, x3] = ll at fr ⊢
    unfold addrV at fr ⊢
    simp only [putB] at fv
    have FR := Lib.hid fr
    have FV := Lib.hid fv
    clear fr fv
    go_enter Tryd.func51, Tryd.ntmps51
    go_wp2_with fail
    refine (FV.out _ w.heap.size (w.heap.size + 1) ?_).mono ?_
    · exact own_newAt [0, 0, 0, 0] (by simp) rfl (by omega) (by decide) rfl
    rintro e w1 ⟨rfl, rfl⟩
    go_wp2_with fail
    refine (FR.out _ ?hz1).mono ?_
    case hz1 => exact hz.below (by go_grown)
    rintro e w2 ⟨rfl, hb2⟩
    have hs2 := hb2.size
    simp at hs2
    have c0 := (hb2.cell (p := ⟨w.heap.size, 0, none⟩) (by simp; omega))
    have c1 := (hb2.cell (p := ⟨w.heap.size, 1, none⟩) (by simp; omega))
    have c2 := (hb2.cell (p := ⟨w.heap.size, 2, none⟩) (by simp; omega))
    have f0 := (hb2.frozen (p := ⟨w.heap.size, 0, none⟩) (by simp; omega))
    have f1 := (hb2.frozen (p := ⟨w.heap.size, 1, none⟩) (by simp; omega))
    have f2 := (hb2.frozen (p := ⟨w.heap.size, 2, none⟩) (by simp; omega))
    simp at c0 c1 c2 f0 f1 f2
    obtain ⟨q0, q1, q2⟩ := set3 (.int .u64 0) (.int .u64 (ll : Int)) (.pointer (some p4)) c0 c1 c2
    go_wp2
    refine bodyPost_ret (v := .tuple #[.agg #[.int .u64 0, .int .u64 (ll : Int), .pointer (some p4)], .nilIface]) (by simp [results, Tryd.results51, go_sem, q0, q1, q2]) rfl ⟨rfl, ?_⟩
    have hbA : Below w.heap.size w w2 := by
      refine Below.trans ?_ (hb2.mono (by simp; omega))
      go_grown
    exact ((hbA.setCell (p := ⟨w.heap.size, 0, none⟩) (Nat.le_refl _) _).setCell (p := ⟨w.heap.size, 1, none⟩) (Nat.le_refl _) _).setCell (p := ⟨w.heap.size, 2, none⟩) (Nat.le_refl _) _
end Go.Proofs.YtkmjejgeeghjmaaDoor
