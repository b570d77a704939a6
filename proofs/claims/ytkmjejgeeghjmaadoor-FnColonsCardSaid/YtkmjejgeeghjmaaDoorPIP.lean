/-
  Contracts of net.parseIP, net.ParseIP and impl.ParseIP for texts that are read. No condition.
-/
import Derived.Test.YtkmjejgeeghjmaaDoorPA
namespace Go.Proofs.YtkmjejgeeghjmaaDoor
open Go.RowKit
set_option linter.unusedVariables false

theorem be_mapped (f : List UInt8) (hl : f.length = 4) : be ((mp ++ f).take 8) = 0 ∧ be ((mp ++ f).drop 8) = lo4 f := by
  match f, hl with
  | [x0, x1, x2, x3], _ =>
    have b0 := x0.toNat_lt
    have b1 := x1.toNat_lt
    have b2 := x2.toNat_lt
    have b3 := x3.toNat_lt
    refine ⟨rfl, ?_⟩
    simp [be, lo4, mp]; omega
/-- ParseAddr of a text that is read: an address without a zone whose 16 bytes are these -/
theorem parseAddr_any {s out : List UInt8} (h : Reads s out) (p4 p6 : Addr) (w : World) (hz : ZF w p4 p6) :
    ∃ p : Addr, (p = p4 ∨ p = p6) ∧ Calls Tryd.prog 41 #[.string ⟨s.toArray⟩] w fun e w' => e = .returned (.tuple #[addrV (be (out.take 8)) (be (out.drop 8)) (some p), .nilIface]) ∧ Below w.heap.size w w' := by
  rcases h with ⟨dot, h⟩ | ⟨xs, h1, rfl, rfl⟩
  · exact ⟨p6, .inr rfl, parseAddr_6 h p4 p6 w hz⟩
  · obtain ⟨e1, e2⟩ := be_mapped xs h1
    rw [e1, e2]
    exact ⟨p4, .inl rfl, parseAddr_4 xs h1 p4 p6 w hz⟩

set_option maxRecDepth 100000 in
set_option maxHeartbeats 4000000 in
theorem parseIP_any {s out : List UInt8} (h : Reads s out) (p4 p6 : Addr) (w : World) (hz : ZF w p4 p6) :
    Calls Tryd.prog 37 #[.string ⟨s.toArray⟩] w fun e w' => e = .returned (.tuple #[.agg (cb out).toArray, .bool true]) ∧ Below w.heap.size w w' := by
  have HOL := Lib.hid h.len
  obtain ⟨Z16, hZ⟩ : ∃ Z : Array Value, Z = (cb (List.replicate 16 0)).toArray := ⟨_, rfl⟩
  have hz0 := hz.alloc (.cells Z16 62)
  obtain ⟨p, hp, fp⟩ := parseAddr_any h p4 p6 _ hz0
  rw [hZ] at fp hz0
  have fz := fun (W' : World) (hz : ZF W' p4 p6) => (show Calls Tryd.prog 42 #[addrV (be (out.take 8)) (be (out.drop 8)) (some p)] W' fun e w' => e = .returned (.string ⟨#[]⟩) ∧ Below W'.heap.size W' w' from by
    rcases hp with rfl | rfl
    · exact zone_4 _ _ _ p6 W' hz
    · exact zone_6 _ _ p4 _ W' hz)
  have fa := fun (W' : World) => as16_any out p W' HOL.out
  generalize be (out.take 8) = hh at fp fz fa
  generalize be (out.drop 8) = ll at fp fz fa
  unfold addrV at fp fz fa
  have FP := Lib.hid fp
  have FZ := Lib.hid fz
  have FA := Lib.hid fa
  clear fp fz fa h hp
  have e16 : (cb (List.replicate 16 (0 : UInt8))).toArray = #[.int .u8 0, .int .u8 0, .int .u8 0, .int .u8 0, .int .u8 0, .int .u8 0, .int .u8 0, .int .u8 0, .int .u8 0, .int .u8 0, .int .u8 0, .int .u8 0, .int .u8 0, .int .u8 0, .int .u8 0, .int .u8 0] := rfl
  rw [e16] at FP hz0 hZ
  clear e16 hZ
  go_enter Tryd.func37, Tryd.ntmps37
  go_wp2_with fail
  refine FP.out.mono ?_
  rintro e w1 ⟨rfl, hb1⟩
  have hs1 := hb1.size
  simp at hs1
  have z1 := (hz0.below hb1).alloc (.cells #[.int .u64 (hh : Int), .int .u64 (ll : Int), .pointer (some p)] 73)
  have hg1 := (hb1.alloc hb1.size (.cells #[.int .u64 (hh : Int), .int .u64 (ll : Int), .pointer (some p)] 73)).block w.heap.size (by simp)
  rw [heap_alloc_new] at hg1
  have HG1 := Lib.hid hg1
  clear hg1
  go_wp2_with fail
  refine (FZ.out _ z1).mono ?_
  rintro e w2 ⟨rfl, hb2⟩
  have hs2 := hb2.size
  simp at hs2
  have hg2 := (hb2.block w.heap.size (by simp; omega)).trans HG1.out
  have c0 := (hb2.cell (p := ⟨w1.heap.size, 0, none⟩) (by simp))
  have c1 := (hb2.cell (p := ⟨w1.heap.size, 1, none⟩) (by simp))
  have c2 := (hb2.cell (p := ⟨w1.heap.size, 2, none⟩) (by simp))
  simp at c0 c1 c2
  have HG2 := Lib.hid hg2
  clear hg2
  go_wp2_with fail
  refine (FA.out _).mono ?_
  rintro e w3 ⟨rfl, hb3⟩
  have hg3 := (hb3.block w.heap.size (by omega)).trans HG2.out
  have HG3 := Lib.hid hg3
  clear hg3
  have hi16 : (Tryd.prog.info? 62).map (·.size) = some (cb out).toArray.size := by rw [info16]; simp [cb_length, HOL.out]
  have HI := Lib.hid hi16
  clear hi16
  have hbB : Below w.heap.size w w3 := by
    refine Below.trans ((Below.refl _ _).alloc (Nat.le_refl _) _) (Below.trans (hb1.mono (by simp)) (Below.trans ((Below.refl _ _).alloc (by omega) _) (Below.trans (hb2.mono (by simp; omega)) (hb3.mono (by omega)))))
  go_wp2_with (refine wpList_store_row rfl 62 (.tmp 2) (.tmp 20) rfl w.heap.size (cb out).toArray rfl rfl _ _ HG3.out HI.out (by simp [cb_length, HOL.out]) (cb_all out) ?_)
  have hg4 := setRow_heap w3 w.heap.size _ (cb out).toArray _ _ HG3.out
  have hld := run_loadVar_row (P := Tryd.prog) (w3.setRow w.heap.size (cb out).toArray) w.heap.size _ 62 (cb out).toArray _ _ hg4 Tryd.underlying62 rfl HI.out
  have HLD := Lib.hid hld
  clear hld hg4
  go_wp2
  refine bodyPost_ret (v := .tuple #[.agg (cb out).toArray, .bool true]) (by have hld := HLD.out; simp [results, Tryd.results37, asAddr, hld]) rfl ⟨rfl, below_setRow hbB (Nat.le_refl _) _⟩

/-- a slice that reads as 16 bytes, in new memory -/
def New16 (w : World) (out : List UInt8) (e : Ending) (w' : World) : Prop := ∃ b off c, e = .returned (.slice (some ⟨b, off, none⟩) 16 c) ∧ 16 ≤ c ∧ Rd w' (some ⟨b, off, none⟩) out ∧ Below w.heap.size w w'

set_option maxRecDepth 100000 in
set_option maxHeartbeats 4000000 in
theorem netParseIP_any {s out : List UInt8} (h : Reads s out) (p4 p6 : Addr) (w : World) (hz : ZF w p4 p6) :
    Calls Tryd.prog 29 #[.string ⟨s.toArray⟩] w fun e w' => New16 w out e w' := by
  have HOL := Lib.hid h.len
  have fp := parseIP_any h p4 p6 w hz
  have FP := Lib.hid fp
  clear fp h
  have hi16 : (Tryd.prog.info? 62).map (·.size) = some (cb out).toArray.size := by rw [info16]; simp [cb_length, HOL.out]
  have HI := Lib.hid hi16
  clear hi16
  go_enter Tryd.func29, Tryd.ntmps29
  go_wp2_with fail
  refine FP.out.mono ?_
  rintro e w1 ⟨rfl, hb1⟩
  have hg1 := Lib.hid (heap_alloc_new w1 (.cells #[.int .u8 0, .int .u8 0, .int .u8 0, .int .u8 0, .int .u8 0, .int .u8 0, .int .u8 0, .int .u8 0, .int .u8 0, .int .u8 0, .int .u8 0, .int .u8 0, .int .u8 0, .int .u8 0, .int .u8 0, .int .u8 0] 62))
  go_wp2_with (refine wpList_store_row rfl 62 (.tmp 3) (.tmp 8) rfl w1.heap.size (cb out).toArray rfl rfl _ _ hg1.out HI.out (by simp [cb_length, HOL.out]) (cb_all out) ?_)
  have hg4 := setRow_heap _ w1.heap.size _ (cb out).toArray _ _ hg1.out
  have hbB := below_setRow (g := w1.heap.size) (hb1.alloc hb1.size (.cells #[.int .u8 0, .int .u8 0, .int .u8 0, .int .u8 0, .int .u8 0, .int .u8 0, .int .u8 0, .int .u8 0, .int .u8 0, .int .u8 0, .int .u8 0, .int .u8 0, .int .u8 0, .int .u8 0, .int .u8 0, .int .u8 0] 62)) hb1.size (cb out).toArray
  generalize World.setRow _ w1.heap.size (cb out).toArray = w2 at hg4 hbB ⊢
  have HG4 := Lib.hid hg4
  clear hg4
  go_wp2
  go_ret
  refine ⟨w1.heap.size, 0, 16, rfl, Nat.le_refl _, fun _ => ⟨_, _, rfl, ?_, fun j hj => ?_⟩, hbB⟩
  · exact heap_lt HG4.out
  · rw [cell_of_row _ _ _ _ _ _ HG4.out, Nat.zero_add]
    have := cb_get out j hj
    simpa using this

set_option maxHeartbeats 1000000 in
theorem implParseIP_any {s out : List UInt8} (h : Reads s out) (p4 p6 : Addr) (w : World) (hz : ZF w p4 p6) :
    Calls Tryd.prog 18 #[.string ⟨s.toArray⟩] w fun e w' => OwnOpt 5 w (some out) e w' := by
  have HOL := Lib.hid h.len
  have fp := netParseIP_any h p4 p6 w hz
  have FP := Lib.hid fp
  clear fp h
  go_enter Tryd.func18, Tryd.ntmps18
  go_wp2_with fail
  refine FP.out.mono ?_
  rintro e w1 ⟨b, off, c, rfl, hc, hr, hb1⟩
  go_wp2_with fail
  refine (plain_any _ _ _ out _ HOL.out (by exact hr) (by decide)).mono ?_
  rintro e w2 ⟨A2, n2, c2, rfl, hn2, hown2, hb2⟩
  have HN2 := Lib.hid hn2
  clear hn2
  go_wp2
  go_ret2
  exact OwnOpt.some_ rfl HN2.out hown2 hb2 hb1
end Go.Proofs.YtkmjejgeeghjmaaDoor
