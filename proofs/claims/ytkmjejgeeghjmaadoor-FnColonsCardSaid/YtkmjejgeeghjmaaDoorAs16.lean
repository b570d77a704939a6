/-
  Contracts of (netip.Addr).Zone, byteorder.BEPutUint64 and (netip.Addr).As16. No condition.
-/
import Derived.Test.YtkmjejgeeghjmaaDoorZone
import Derived.Test.YtkmjejgeeghjmaaDoorP4
import Derived.Deep.RegionHeld3
import Derived.Laws.CopyRow
import Derived.Laws.CopyOwn
import Derived.Laws.Tables
namespace Go.Proofs.YtkmjejgeeghjmaaDoor
open Go.RowKit
set_option linter.unusedVariables false

set_option maxRecDepth 100000 in
set_option maxHeartbeats 1000000 in
theorem zone_of (hi lo : Nat) (p : Addr) (b : Bool) (w : World) (h00 : w.cell? ⟨1, 0, none⟩ = some (.pointer none)) (l00 : 1 < w.heap.size) (hs : p.spot = none) (h0 : w.cell? ⟨p.block, p.off, none⟩ = some (.bool b)) (h1 : w.cell? ⟨p.block, p.off + 1, none⟩ = some (.string ⟨#[]⟩)) :
    Calls Tryd.prog 42 #[addrV hi lo (some p)] w fun e w' => e = .returned (.string ⟨#[]⟩) ∧ Below w.heap.size w w' := by
  have l0 : p.block < w.heap.size := by
    rcases Nat.lt_or_ge p.block w.heap.size with h' | h'
    · exact h'
    · simp [World.cell?, Array.getElem?_eq_none h'] at h0
  have k0 := fun o => ((((Below.refl w.heap.size w).alloc (Nat.le_refl _) o)).cell (p := ⟨p.block, p.off, none⟩) l0).trans h0
  have k1 := fun o => ((((Below.refl w.heap.size w).alloc (Nat.le_refl _) o)).cell (p := ⟨p.block, p.off + 1, none⟩) l0).trans h1
  have fv := fun (o : Obj) => value_any p b (w.alloc o) hs (k0 o) (k1 o)
  have FV := Lib.hid fv
  clear fv k0 k1 h0 h1
  have e0 := h_eql_none
  have hfd : ∀ w : World, (Instr.field 87 (.agg #[.bool b, .string ⟨#[]⟩]) 1).run Tryd.prog w = .ok (.string ⟨#[]⟩) w := fun _ => by kernel_rfl
  unfold addrV
  go_enter Tryd.func42, Tryd.ntmps42
  go_wp2_with fail
  refine (FV.out _).mono ?_
  rintro e w1 ⟨rfl, hb1⟩
  go_wp2
  go_ret
  exact ⟨rfl, ((Below.refl _ _).alloc (Nat.le_refl _) _).trans (hb1.mono (by simp))⟩
theorem zone_6 (hi lo : Nat) (p4 p6 : Addr) (w : World) (hz : ZF w p4 p6) :
    Calls Tryd.prog 42 #[addrV hi lo (some p6)] w fun e w' => e = .returned (.string ⟨#[]⟩) ∧ Below w.heap.size w w' := by
  obtain ⟨⟨h0, h4, h6⟩, ⟨l0, l4, l6⟩, _, _, _, s4, s6, a4, b4, a6, b6⟩ := hz
  exact zone_of hi lo p6 true w h0 l0 s6 a6 b6
theorem zone_4 (hi lo : Nat) (p4 p6 : Addr) (w : World) (hz : ZF w p4 p6) :
    Calls Tryd.prog 42 #[addrV hi lo (some p4)] w fun e w' => e = .returned (.string ⟨#[]⟩) ∧ Below w.heap.size w w' := by
  obtain ⟨⟨h0, h4, h6⟩, ⟨l0, l4, l6⟩, _, _, _, s4, s6, a4, b4, a6, b6⟩ := hz
  exact zone_of hi lo p4 false w h0 l0 s4 a4 b4

theorem be_byte (y0 y1 y2 y3 y4 y5 y6 y7 : UInt8) :
    be [y0, y1, y2, y3, y4, y5, y6, y7] / 72057594037927936 % 256 = y0.toNat ∧ be [y0, y1, y2, y3, y4, y5, y6, y7] / 281474976710656 % 256 = y1.toNat ∧ be [y0, y1, y2, y3, y4, y5, y6, y7] / 1099511627776 % 256 = y2.toNat ∧ be [y0, y1, y2, y3, y4, y5, y6, y7] / 4294967296 % 256 = y3.toNat ∧
    be [y0, y1, y2, y3, y4, y5, y6, y7] / 16777216 % 256 = y4.toNat ∧ be [y0, y1, y2, y3, y4, y5, y6, y7] / 65536 % 256 = y5.toNat ∧ be [y0, y1, y2, y3, y4, y5, y6, y7] / 256 % 256 = y6.toNat ∧ be [y0, y1, y2, y3, y4, y5, y6, y7] % 256 = y7.toNat ∧ be [y0, y1, y2, y3, y4, y5, y6, y7] < 18446744073709551616 := by
  have b0 := y0.toNat_lt
  have b1 := y1.toNat_lt
  have b2 := y2.toNat_lt
  have b3 := y3.toNat_lt
  have b4 := y4.toNat_lt
  have b5 := y5.toNat_lt
  have b6 := y6.toNat_lt
  have b7 := y7.toNat_lt
  simp only [be, List.foldl]
  omega

set_option maxRecDepth 100000 in
set_option maxHeartbeats 4000000 in
theorem bePut_any (B o c n base : Nat) (xs ys : List UInt8) (w : World) (hy : ys.length = 8) (t : TypeId) (hown : w.ownsRow base t 1 (.slice (some ⟨B, 0, none⟩) n n) xs.length (cb xs)) (hxs : xs.length = n) (ho : o + 8 ≤ n) :
    Calls Tryd.prog 54 #[.slice (some ⟨B, o, none⟩) 8 c, .int .u64 (be ys : Int)] w fun e w' => e = .returned (.tuple #[]) ∧ w' = putB w B o ys := by
  have cell := fun k (hk : k < n) => own_cell (j := k) hown (by rw [hxs]; exact hk) hxs
  have fz := fun k => own_frozen hown k hxs
  have c0 := cell o (by omega)
  have c1 := cell (o + 1) (by omega)
  have c2 := cell (o + 2) (by omega)
  have c3 := cell (o + 3) (by omega)
  have c4 := cell (o + 4) (by omega)
  have c5 := cell (o + 5) (by omega)
  have c6 := cell (o + 6) (by omega)
  have c7 := cell (o + 7) (by omega)
  have f0 := fz o
  have f1 := fz (o + 1)
  have f2 := fz (o + 2)
  have f3 := fz (o + 3)
  have f4 := fz (o + 4)
  have f5 := fz (o + 5)
  have f6 := fz (o + 6)
  have f7 := fz (o + 7)
  clear cell fz
  match ys, hy with
  | [y0, y1, y2, y3, y4, y5, y6, y7], _ =>
    have HB := Lib.hid (be_byte y0 y1 y2 y3 y4 y5 y6 y7)
    have hlt := HB.out.2.2.2.2.2.2.2.2
    generalize be [y0, y1, y2, y3, y4, y5, y6, y7] = v at HB hlt ⊢
    go_enter Tryd.func54, Tryd.ntmps54
    go_wp2
    go_returns
    refine ⟨rfl, ?_⟩
    obtain ⟨r0, r1, r2, r3, r4, r5, r6, r7, _⟩ := HB.out
    have s0 : (v : Int) / 72057594037927936 = (y0.toNat : Int) := by omega
    have s1 : (v : Int) / 281474976710656 % 256 = (y1.toNat : Int) := by omega
    have s2 : (v : Int) / 1099511627776 % 256 = (y2.toNat : Int) := by omega
    have s3 : (v : Int) / 4294967296 % 256 = (y3.toNat : Int) := by omega
    have s4 : (v : Int) / 16777216 % 256 = (y4.toNat : Int) := by omega
    have s5 : (v : Int) / 65536 % 256 = (y5.toNat : Int) := by omega
    have s6 : (v : Int) / 256 % 256 = (y6.toNat : Int) := by omega
    have s7 : (v : Int) % 256 = (y7.toNat : Int) := by omega
    rw [s0, s1, s2, s3, s4, s5, s6, s7]
    simp only [putB, Nat.add_assoc]

theorem put8 (xs : List UInt8) (h : xs.length = 16) : (xs.take 8 ++ List.replicate 8 (0 : UInt8)).take 8 ++ (xs.drop 8 ++ (xs.take 8 ++ List.replicate 8 0).drop (8 + (xs.drop 8).length)) = xs := by
  have e : (xs.take 8 ++ List.replicate 8 (0 : UInt8)).drop (8 + (xs.drop 8).length) = [] := List.drop_of_length_le (by simp [h])
  rw [List.take_left' (by simp [h]), e, List.append_nil, List.take_append_drop]
theorem cb_all (xs : List UInt8) : ((cb xs).toArray).all (·.oneCell') = true := by
  rw [Array.all_eq_true_iff_forall_mem]
  intro v hv
  exact cb_one xs v (by simpa using hv)
theorem info16 : (Tryd.prog.info? 62).map (·.size) = some 16 := by kernel_rfl
theorem own_bytes {w : World} {base B : Nat} {e : TypeId} {xs : List UInt8} (h : w.ownsRow base e 1 (.slice (some ⟨B, 0, none⟩) 16 16) xs.length (cb xs)) (hn : xs.length = 16) : w.heap[B]? = some (.cells (cb xs).toArray e (0, 0)) := (own_block h hn).1

set_option maxRecDepth 100000 in
set_option maxHeartbeats 4000000 in
theorem as16_any (xs : List UInt8) (p : Addr) (w : World) (hx : xs.length = 16) :
    Calls Tryd.prog 43 #[addrV (be (xs.take 8)) (be (xs.drop 8)) (some p)] w fun e w' => e = .returned (.agg (cb xs).toArray) ∧ Below w.heap.size w w' := by
  have f1 := fun (W : World) (B o c base : Nat) (ys : List UInt8) (hown : W.ownsRow base 62 1 (.slice (some ⟨B, 0, none⟩) 16 16) ys.length (cb ys)) (hy : ys.length = 16) (ho : o + 8 ≤ 16) => bePut_any B o c 16 base ys (xs.take 8) W (by simp [hx]) 62 hown hy ho
  have f2 := fun (W : World) (B o c base : Nat) (ys : List UInt8) (hown : W.ownsRow base 62 1 (.slice (some ⟨B, 0, none⟩) 16 16) ys.length (cb ys)) (hy : ys.length = 16) (ho : o + 8 ≤ 16) => bePut_any B o c 16 base ys (xs.drop 8) W (by simp [hx]) 62 hown hy ho
  generalize be (xs.take 8) = hh at f1 ⊢
  generalize be (xs.drop 8) = ll at f2 ⊢
  have F1 := Lib.hid f1
  have F2 := Lib.hid f2
  have HX := Lib.hid hx
  clear f1 f2 hx
  unfold addrV
  go_enter Tryd.func43, Tryd.ntmps43
  go_wp2
  obtain ⟨W, hW⟩ : ∃ W : World, W = (w.alloc (.cells #[.int .u64 (hh : Int), .int .u64 (ll : Int), .pointer (some p)] 73)).alloc (.cells #[.int .u8 0, .int .u8 0, .int .u8 0, .int .u8 0, .int .u8 0, .int .u8 0, .int .u8 0, .int .u8 0, .int .u8 0, .int .u8 0, .int .u8 0, .int .u8 0, .int .u8 0, .int .u8 0, .int .u8 0, .int .u8 0] 62) := ⟨_, rfl⟩
  have hO : W.ownsRow w.heap.size 62 1 (.slice (some ⟨w.heap.size + 1, 0, none⟩) 16 16) (List.replicate 16 (0 : UInt8)).length (cb (List.replicate 16 0)) := by
    rw [hW]; exact own_newAt (List.replicate 16 0) (by simp) rfl (by omega) (by decide) rfl
  have h0 : W.cell? ⟨w.heap.size, 0, none⟩ = some (.int .u64 (hh : Int)) := by rw [hW]; simp
  have h1 : W.cell? ⟨w.heap.size, 1, none⟩ = some (.int .u64 (ll : Int)) := by rw [hW]; simp
  have hb : Below w.heap.size w W := by rw [hW]; go_grown
  have hsz : W.heap.size = w.heap.size + 2 := by rw [hW]; simp
  rw [← hW]
  clear hW
  have HSZ := Lib.hid hsz
  have hlt : w.heap.size + 1 < W.heap.size := by omega
  clear hsz
  go_region_held3 (fun (v : World) => v.cell? ⟨w.heap.size, 0, none⟩ = some (.int .u64 (hh : Int)) ∧ v.cell? ⟨w.heap.size, 1, none⟩ = some (.int .u64 (ll : Int))) (first | exact ⟨h0, h1⟩ | exact ⟨k0, k1⟩) ((go_at_call 54; refine (F1.out W.drew (w.heap.size + 1) 0 _ w.heap.size (List.replicate 16 0) (by exact hO) rfl (by omega)).mono ?_; rintro e w1 ⟨rfl, hw1⟩; have k0 : w1.cell? ⟨w.heap.size, 0, none⟩ = some (.int .u64 (hh : Int)) := (by rw [hw1, putB_other _ _ _ _ _ (by simp)]; exact h0); have k1 : w1.cell? ⟨w.heap.size, 1, none⟩ = some (.int .u64 (ll : Int)) := (by rw [hw1, putB_other _ _ _ _ _ (by simp)]; exact h1); have HW1 := Lib.hid hw1; clear hw1))
  have hO1 : w1.ownsRow w.heap.size 62 1 (.slice (some ⟨w.heap.size + 1, 0, none⟩) 16 16) (xs.take 8 ++ List.replicate 8 0).length (cb (xs.take 8 ++ List.replicate 8 0)) := by
    have h := putB_own (w := W.drew) (o := 0) (by exact hO) rfl (xs.take 8) (by simp [HX.out])
    rw [← HW1.out] at h
    simpa [HX.out] using h
  have hb1 : Below w.heap.size w w1 := by rw [HW1.out]; exact putB_below hb.drew (by omega) _ _
  have hs1 : w1.heap.size = W.heap.size := by rw [HW1.out, putB_size]; rfl
  have hlt1 : w.heap.size + 1 < w1.heap.size := by omega
  have HS1 := Lib.hid hs1
  have L1 := Lib.hid (show (xs.take 8 ++ List.replicate 8 0).length = 16 by simp [HX.out])
  clear hs1 HW1 h0 h1
  go_wp2
  go_region_held3 (fun (v : World) => v.cell? ⟨w.heap.size, 0, none⟩ = some (.int .u64 (hh : Int)) ∧ v.cell? ⟨w.heap.size, 1, none⟩ = some (.int .u64 (ll : Int))) (first | exact ⟨k0, k1⟩ | exact ⟨j0, j1⟩) ((go_at_call 54; refine (F2.out w1.drew (w.heap.size + 1) 8 _ w.heap.size (xs.take 8 ++ List.replicate 8 0) (by exact hO1) L1.out (by omega)).mono ?_; rintro e w2 ⟨rfl, hw2⟩; have j0 : w2.cell? ⟨w.heap.size, 0, none⟩ = some (.int .u64 (hh : Int)) := (by rw [hw2, putB_other _ _ _ _ _ (by simp)]; exact k0); have j1 : w2.cell? ⟨w.heap.size, 1, none⟩ = some (.int .u64 (ll : Int)) := (by rw [hw2, putB_other _ _ _ _ _ (by simp)]; exact k1); have HW2 := Lib.hid hw2; clear hw2))
  have hO2 : w2.ownsRow w.heap.size 62 1 (.slice (some ⟨w.heap.size + 1, 0, none⟩) 16 16) xs.length (cb xs) := by
    have h := putB_own (w := w1.drew) (o := 8) (by exact hO1) L1.out (xs.drop 8) (by simp [HX.out])
    rw [← HW2.out] at h
    have e1 := put8 xs HX.out
    rwa [e1] at h
  have hb2 : Below w.heap.size w w2 := by rw [HW2.out]; exact putB_below hb1.drew (by omega) _ _
  have hg := own_bytes hO2 HX.out
  clear HW2 k0 k1
  have hi16 : (Tryd.prog.info? 62).map (·.size) = some (cb xs).toArray.size := by rw [info16]; simp [cb_length, HX.out]
  have hself := setRow_self w2 (w.heap.size + 1) _ _ _ hg
  have HSELF := Lib.hid hself
  have HG := Lib.hid hg
  have HI := Lib.hid hi16
  clear hself hg hi16
  go_wp2_with (first | (refine wpList_load_row rfl 62 _ rfl (w.heap.size + 1) rfl _ (cb xs).toArray _ _ HG.out Tryd.underlying62 rfl HI.out ?_) | (refine wpList_store_row rfl 62 (.tmp 2) (.tmp 13) rfl (w.heap.size + 1) (cb xs).toArray rfl rfl _ (cb xs).toArray HG.out HI.out rfl (cb_all xs) ?_; rw [HSELF.out]))
  refine bodyPost_ret (v := .agg (cb xs).toArray) (results_cell_row Tryd.results43 _ _ (w.heap.size + 1) _ _ _ _ rfl HG.out Tryd.underlying62 rfl HI.out) rfl ⟨rfl, hb2⟩
end Go.Proofs.YtkmjejgeeghjmaaDoor
