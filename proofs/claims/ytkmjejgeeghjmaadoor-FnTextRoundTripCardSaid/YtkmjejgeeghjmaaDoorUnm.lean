/-
  Contracts of (*net.IP).UnmarshalText and impl.UnmarshalText for texts that are read. No condition.
-/
import Derived.Test.YtkmjejgeeghjmaaDoorReadsP
namespace Go.Proofs.YtkmjejgeeghjmaaDoor
open Go.RowKit
set_option linter.unusedVariables false

/-- []byte(s): new memory that reads as the bytes -/
theorem bytes_of (w : World) (l : List UInt8) : ∃ (cap : Nat) (o : Obj), (convert 9 22 (.string ⟨l.toArray⟩)).run Tryd.prog w = .ok (.slice (some ⟨w.heap.size, 0, none⟩) l.length cap) (w.alloc o).drew ∧ Rd (w.alloc o) (some ⟨w.heap.size, 0, none⟩) l := by
  refine ⟨_, _, run_bytes_of_string w 9 22 5 ⟨l.toArray⟩ Tryd.underlying9 Tryd.underlying22 Tryd.underlying5, ?_⟩
  intro _
  refine ⟨_, _, rfl, by simp, fun j hj => ?_⟩
  rw [cell_of_row _ _ _ _ _ _ (heap_alloc_new w _), Nat.zero_add]
  exact bytesRow_at ⟨l.toArray⟩ _ j (by simpa using hj)
theorem cell_blk {w : World} {a : Addr} {v : Value} (h : w.cell? a = some v) : a.block < w.heap.size := by
  rcases Nat.lt_or_ge a.block w.heap.size with h' | h'
  · exact h'
  · simp [World.cell?, Array.getElem?_eq_none h'] at h

set_option maxRecDepth 100000 in
set_option maxHeartbeats 1000000 in
theorem netUnm_any {s out : List UInt8} (h : Reads s out) (P B : Nat) (c : Nat) (p4 p6 : Addr) (w : World) (hz : ZF w p4 p6) (v0 : Value) (hc0 : w.cell? ⟨P, 0, none⟩ = some v0) (hf0 : w.frozen? ⟨P, 0, none⟩ = false) (ha : Rd w (some ⟨B, 0, none⟩) s) :
    Calls Tryd.prog 25 #[.pointer (some ⟨P, 0, none⟩), .slice (some ⟨B, 0, none⟩) s.length c] w fun e w' => ∃ w1 b off c1, e = .returned .nilIface ∧ w' = w1.setCell ⟨P, 0, none⟩ (.slice (some ⟨b, off, none⟩) 16 c1) ∧ Rd w1 (some ⟨b, off, none⟩) out ∧ Below w.heap.size w w1 := by
  have HOL := Lib.hid h.len
  obtain ⟨hl, hne⟩ := reads_len h
  have hpos : 0 < s.length := List.length_pos_iff.mpr hne
  have hz0 : ((s.length : Int) == 0) = false := beq_eq_false_iff_ne.mpr (by omega)
  have lP := cell_blk hc0
  have fp := fun (W' : World) (hz : ZF W' p4 p6) => netParseIP_any h p4 p6 W' hz
  have FP := Lib.hid fp
  have hst := run_str (P := Tryd.prog) 22 9 5 Tryd.underlying22 Tryd.underlying5 Tryd.underlying9 c rfl ha
  clear fp h hne
  go_enter Tryd.func25, Tryd.ntmps25
  go_wp2_with fail
  refine (FP.out _ hz).mono ?_
  rintro e w1 ⟨b, off, c1, rfl, hc1, hr1, hb1⟩
  have k0 := (hb1.cell (p := ⟨P, 0, none⟩) lP).trans hc0
  have k1 := (hb1.frozen (p := ⟨P, 0, none⟩) lP).trans hf0
  have hnil := Lib.run_eql_slice_nil (P := Tryd.prog) w1 42 5 (some ⟨b, off, none⟩) 16 c1 0 0 Tryd.underlying42
  simp only [Option.isNone_some] at hnil
  go_wp2
  go_ret
  exact ⟨w1, b, off, c1, rfl, rfl, hr1, hb1⟩

set_option maxRecDepth 100000 in
set_option maxHeartbeats 1000000 in
theorem implUnm_any {s out : List UInt8} (h : Reads s out) (p4 p6 : Addr) (w : World) (hz : ZF w p4 p6) :
    Calls Tryd.prog 12 #[.string ⟨s.toArray⟩] w fun e w' => OwnOpt 5 w (some out) e w' := by
  have HOL := Lib.hid h.len
  obtain ⟨cap, o, hconv, hrd⟩ := bytes_of (w.alloc (.cells #[.slice none 0 0] 42)) s
  obtain ⟨hl, hne⟩ := reads_len h
  have fp := fun (W' : World) (B c : Nat) (P : Nat) (hz : ZF W' p4 p6) (v0 : Value) (hc0 : W'.cell? ⟨P, 0, none⟩ = some v0) (hf0 : W'.frozen? ⟨P, 0, none⟩ = false) (ha : Rd W' (some ⟨B, 0, none⟩) s) => netUnm_any h P B c p4 p6 W' hz v0 hc0 hf0 ha
  have FP := Lib.hid fp
  simp at hconv hrd
  clear fp h hne
  go_enter Tryd.func12, Tryd.ntmps12
  go_wp2_with fail
  refine (FP.out ((w.alloc (.cells #[.slice none 0 0] 42)).alloc o).drew _ _ _ (by exact (hz.alloc _).alloc _) (.slice none 0 0) ?hc ?hf (by exact hrd)).mono ?_
  case hc => simp
  case hf => simp
  rintro e w1 ⟨w2, b, off, c1, rfl, rfl, hr2, hb2⟩
  have hs2 := hb2.size
  simp at hs2
  have hlt : w.heap.size < w2.heap.size := by omega
  have k0 := (hb2.cell (p := ⟨w.heap.size, 0, none⟩) (by simp; omega))
  simp at k0
  have k1 := World.cell?_setCell_same w2 ⟨w.heap.size, 0, none⟩ (.slice (some ⟨b, off, none⟩) 16 c1) k0
  have hb3 : Below w.heap.size w (w2.setCell ⟨w.heap.size, 0, none⟩ (.slice (some ⟨b, off, none⟩) 16 c1)) := by
    refine Below.setCell (p := ⟨w.heap.size, 0, none⟩) (Below.trans ?_ (hb2.mono ?_)) (Nat.le_refl _) _
    · exact (((Below.refl _ _).alloc (Nat.le_refl _) _).alloc (by simp) _).drew
    · simp; omega
  have hr3 : Rd (w2.setCell ⟨w.heap.size, 0, none⟩ (.slice (some ⟨b, off, none⟩) 16 c1)) (some ⟨b, off, none⟩) out := by
    intro hne
    obtain ⟨b', off', e, hlt', hc⟩ := hr2 hne
    injection e with e
    injection e with e1 e2
    subst e1 e2
    refine ⟨b, off, rfl, by simpa using hlt', fun j hj => ?_⟩
    rw [World.cell?_setCell_other]
    · exact hc j hj
    · intro e
      injection e with e1 e2
      have h1 := hc j hj
      rw [← e1, ← e2, k0] at h1
      cases h1
  go_wp2_with fail
  refine (plain_any _ _ _ out _ HOL.out (by exact hr3) (by decide)).mono ?_
  rintro e w4 ⟨A4, n4, c4, rfl, hn4, hown4, hb4⟩
  have HN4 := Lib.hid hn4
  clear hn4
  go_wp2
  go_ret2
  exact OwnOpt.some_ rfl HN4.out hown4 hb4 hb3
end Go.Proofs.YtkmjejgeeghjmaaDoor
