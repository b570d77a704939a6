/-
  Contract of netip.parseIPv6 for texts that are read (T6). No condition.
-/
import Derived.Test.YtkmjejgeeghjmaaDoorS16
import Derived.Test.YtkmjejgeeghjmaaDoorAs16
import Derived.Test.YtkmjejgeeghjmaaDoorHostJ
import Derived.Deep.CutBlock
import Derived.Deep.DeepCutAuto
import Derived.Deep.LoopGhost
import Derived.Deep.Light
namespace Go.Proofs.YtkmjejgeeghjmaaDoor
open Go.RowKit
set_option linter.unusedVariables false

theorem u32_eq2 {a b : Int} (h : a = b) : Value.int .u32 a = .int .u32 b := by rw [h]

set_option maxRecDepth 100000 in
set_option maxHeartbeats 8000000 in
theorem p6_front (dot : Bool) (r0 out : List UInt8) (p4 p6 : Addr) (w : World) (hz : ZF w p4 p6) (hr0 : r0 ≠ []) (h : P6 dot r0 [] (some 0) out) :
    Calls Tryd.prog 52 #[.string ⟨(58 :: 58 :: r0).toArray⟩] w fun e w' => e = .returned (.tuple #[addrV (be (out.take 8)) (be (out.drop 8)) (some p6), .nilIface]) ∧ Below w.heap.size w w' := by
  have hlen0 := h.len
  obtain ⟨s, hs⟩ : ∃ s, s = 58 :: 58 :: r0 := ⟨_, rfl⟩
  obtain ⟨ell0, hell0⟩ : ∃ e : Option Nat, e = some 0 := ⟨_, rfl⟩
  have hlen : s.length ≤ 65 := by rw [hs]; simp at hlen0 ⊢; omega
  have h37 : ∀ c ∈ s, c ≠ 37 := by
    intro c hc
    rw [hs] at hc
    simp only [List.mem_cons] at hc
    rcases hc with rfl | rfl | hc
    · decide
    · decide
    · exact h.clean c hc
  have h2 : 2 ≤ s.length := by rw [hs]; simp
  have hr2 : s.length = r0.length + 2 := by rw [hs]; rfl
  have hr1 : 1 ≤ r0.length := by rcases r0 with _ | ⟨a, b⟩; exact absurd rfl hr0; simp
  have hp0 : 0 < s.length := by rw [hs]; simp
  have hp1 : 1 < s.length := by rw [hs]; simp
  have hba := ba_at (c := 58) (i := 0) (l := s) hp0 (by simp [hs])
  have hbb := ba_at (c := 58) (i := 1) (l := s) hp1 (by simp [hs])
  have hcut : (⟨s.toArray⟩ : ByteArray).extract 2 s.length = ⟨r0.toArray⟩ := by rw [ba_cut]; subst hs; simp
  have hpre : ∃ pre, s = pre ++ r0 := ⟨[58, 58], by rw [hs]; rfl⟩
  rw [← hs]
  have HP := Lib.hid (show P6 dot r0 [] ell0 out by rw [hell0]; exact h)
  have hr0n : (r0.length : Int) ≠ 0 := by omega
  have hr0b : ((r0.length : Int) == 0) = false := by simpa using hr0n
  clear hs hlen0 hr2
  have hol : out.length = 16 := h.out (fun e he => by injection he with he; omega)
  have hix : ∀ w : World, (callFunc 34 #[.string ⟨s.toArray⟩, .int .u8 37]).run Tryd.prog w = .ok (.value (.int .i64 (-1))) w := fun w => by
    have := idx_run s 37 w
    rwa [ix_none (fun hc => h37 _ hc rfl)] at this
  clear h h37
  have HPRE := Lib.hid hpre
  clear hpre
  have HOL := Lib.hid hol
  clear hol
  have fr := fun (W' : World) (hz : ZF W' p4 p6) => from16_any out p4 p6 W' HOL.out hz
  have fz := fun (W' : World) (hz : ZF W' p4 p6) => withZone_6 (be (out.take 8)) (be (out.drop 8)) p4 p6 W' hz
  generalize be (out.take 8) = hh at fr fz ⊢
  generalize be (out.drop 8) = ll at fr fz ⊢
  unfold addrV at fr fz ⊢
  have FR := Lib.hid fr
  have FZ := Lib.hid fz
  clear fr fz
  go_enter Tryd.func52, Tryd.ntmps52
  go_upto_block 0 with fail
  clear hix hba
  clear hbb hcut hr0n hr0b
  obtain ⟨W, hW⟩ : ∃ W : World, W = (w.alloc (.cells #[.int .u64 0, .int .u64 0, .pointer none] 73)).alloc (.cells #[.int .u8 0, .int .u8 0, .int .u8 0, .int .u8 0, .int .u8 0, .int .u8 0, .int .u8 0, .int .u8 0, .int .u8 0, .int .u8 0, .int .u8 0, .int .u8 0, .int .u8 0, .int .u8 0, .int .u8 0, .int .u8 0] 62) := ⟨_, rfl⟩
  have hO : W.ownsRow w.heap.size 62 1 (.slice (some ⟨w.heap.size + 1, 0, none⟩) 16 16) (List.replicate 16 (0 : UInt8)).length (cb (List.replicate 16 0)) := by
    rw [hW]; exact own_newAt (List.replicate 16 0) (by simp) rfl (by omega) (by decide) rfl
  have q0 : W.cell? ⟨w.heap.size, 0, none⟩ = some (.int .u64 0) := by rw [hW]; simp
  have q1 : W.cell? ⟨w.heap.size, 1, none⟩ = some (.int .u64 0) := by rw [hW]; simp
  have q2 : W.cell? ⟨w.heap.size, 2, none⟩ = some (.pointer none) := by rw [hW]; simp
  have hb : Below w.heap.size w W := by rw [hW]; go_grown
  have hsz : W.heap.size = w.heap.size + 2 := by rw [hW]; simp
  have HQ := Lib.hid (show W.frozen? ⟨w.heap.size, 0, none⟩ = false ∧ W.frozen? ⟨w.heap.size, 1, none⟩ = false ∧ W.frozen? ⟨w.heap.size, 2, none⟩ = false by rw [hW]; simp)
  rw [← hW]
  clear hW
  have HSZ := Lib.hid hsz
  clear hsz
  go_cut [4, 6, 8] (fun s4 s6 s8 wx => ∃ (b : List UInt8) (ell : Option Nat), s4 = .string ⟨#[]⟩ ∧ s6 = .int .i64 (b.length : Int) ∧ s8 = .int .i64 (ellI ell) ∧ wx = putB W (w.heap.size + 1) 0 b ∧ Hid (Fin6 b ell out))
  case first =>
    go_wp2_with fail
    go_loopg [4, 6, 8] 16 (fun k s4 s6 s8 wr => ∃ (r acc : List UInt8) (ell : Option Nat), s4 = .string ⟨r.toArray⟩ ∧ s6 = .int .i64 (acc.length : Int) ∧ s8 = .int .i64 (ellI ell) ∧ wr = putB W (w.heap.size + 1) 0 acc ∧ acc.length + k = 16 ∧ Hid (P6 dot r acc ell out) ∧ Hid (∃ pre, s = pre ++ r))
    case atStart => subst hell0; exact ⟨r0, [], some 0, rfl, rfl, rfl, rfl, rfl, HP.out, HPRE.out⟩
    case round =>
      obtain ⟨r, acc, ell, rfl, rfl, rfl, rfl, hk, HP6, HPR⟩ := hrel
      obtain ⟨ds, rest, hd16, hd1, hd4, hre, hacc, hnext⟩ := HP6.out.shape
      have hfront := hnext.front
      have HNX := Lib.hid hnext
      have HD16 := Lib.hid hd16
      have HRE := Lib.hid hre
      have hrl : r.length ≤ s.length := by obtain ⟨pre, e⟩ := HPR.out; rw [e]; simp
      have hrl2 : r.length = ds.length + rest.length := by rw [hre]; simp
      have hki : (acc.length : Int) < 16 := by omega
      have HRL2 := Lib.hid hrl2
      have hrl3 : ds.length ≤ r.length := by omega
      clear HP6 hnext hre hd16 HP hrl2
      go_upto_block 2 with fail
      go_cut [9, 10] (fun s9 s10 wx => s9 = .int .i64 (ds.length : Int) ∧ s10 = .int .u32 (val ds : Int) ∧ wx = putB W (w.heap.size + 1) 0 acc)
      case first =>
        go_wp2_with fail
        go_loopg [9, 10] ds.length (fun kk s9 s10 wi => ∃ j : Nat, s9 = .int .i64 (j : Int) ∧ s10 = .int .u32 (val (ds.take j) : Int) ∧ wi = putB W (w.heap.size + 1) 0 acc ∧ j + kk = ds.length)
        case atStart => exact ⟨0, rfl, rfl, rfl, by omega⟩
        case round =>
          obtain ⟨j, rfl, rfl, rfl, hj⟩ := hrel
          by_cases hjd : j < ds.length
          · have hjr : j < r.length := by omega
            have hd := HD16.out ds[j] (List.getElem_mem hjd)
            have hat : r[j] = dg ds[j] := by
              have h1 : r[j]? = (ds.map dg ++ rest)[j]? := by rw [HRE.out]
              rw [List.getElem?_append_left (by simpa using hjd), List.getElem?_eq_getElem hjr, List.getElem?_map, List.getElem?_eq_getElem hjd] at h1
              simpa using h1
            have hba := ba_at hjr hat
            have hvt := Lib.hid (val_take ds j hjd)
            have hv1 : val (ds.take j) < 4096 := by
              have h1 := val_lt (ds.take j) (fun d hd => HD16.out d (List.mem_of_mem_take hd))
              have h5 : 16 ^ (ds.take j).length ≤ 16 ^ 3 := Nat.pow_le_pow_right (by decide) (by simp; omega)
              omega
            clear hat hfront
            generalize ds[j] = d at hd hba hvt
            generalize hvv : val (ds.take j) = vv at hv1 hvt
            have HVV := Lib.hid hvv
            clear hvv
            rcases dg_hex d hd with ⟨hd9, hdv⟩ | ⟨hd9, hdv⟩
            · have HDV := Lib.hid hdv
              have k1 : 48 ≤ ((dg d).toNat : Int) := by omega
              have k2 : ((dg d).toNat : Int) ≤ 57 := by omega
              have k3 : (vv : Int) * 16 + (((dg d).toNat : Int) - 48) ≤ 65535 := by omega
              clear hdv
              go_wp2
              go_roundg (gk - 1)
              case measure => omega
              case rel => exact ⟨j + 1, by go_num, u32_eq2 (by have h1 := hvt.out; have h2 := HDV.out; omega), rfl, by omega⟩
            · have HDV := Lib.hid hdv
              have k1 : 97 ≤ ((dg d).toNat : Int) := by omega
              have k2 : ((dg d).toNat : Int) ≤ 102 := by omega
              have k3 : (vv : Int) * 16 + (((dg d).toNat : Int) - 97 + 10) ≤ 65535 := by omega
              clear hdv
              go_wp2
              go_roundg (gk - 1)
              case measure => omega
              case rel => exact ⟨j + 1, by go_num, u32_eq2 (by have h1 := hvt.out; have h2 := HDV.out; omega), rfl, by omega⟩
          · have hje : Hid (j = ds.length) := by show j = ds.length; omega
            rcases hfront with hnil | ⟨c, r', hrc, hc⟩
            · have hjr : (r.length : Int) ≤ (j : Int) := by have hrl2 := HRL2.out; rw [hnil] at hrl2; simp at hrl2; omega
              clear hnil
              go_wp2
              go_meet
              case rel => exact ⟨by rw [hje.out], by rw [hje.out, List.take_length], rfl⟩
            · have hjr : j < r.length := by have hrl2 := HRL2.out; rw [hrc] at hrl2; simp at hrl2; omega
              have hat : r[j] = c := by
                have h1 : r[j]? = (ds.map dg ++ rest)[j]? := by rw [HRE.out]
                rw [List.getElem?_append_right (by simp; omega), List.getElem?_eq_getElem hjr, hrc] at h1
                have h2 : j - (ds.map dg).length = 0 := by simp; omega
                rw [h2] at h1
                simpa using h1
              have hba := ba_at hjr hat
              clear hat
              rcases hc with rfl | rfl
              · go_wp2
                go_meet
                case rel => exact ⟨by rw [hje.out], by rw [hje.out, List.take_length], rfl⟩
              · go_wp2
                go_meet
                case rel => exact ⟨by rw [hje.out], by rw [hje.out, List.take_length], rfl⟩
      case rest =>
        obtain ⟨rfl, rfl, rfl⟩ := hcut
        have hds0 : ((ds.length : Int) == 0) = false := beq_eq_false_iff_ne.mpr (by omega)
        have hvd := val_take_lt ds ds.length HD16.out hd4
        rw [List.take_length] at hvd
        have HCC := Lib.hid (show r.drop ds.length = rest by rw [HRE.out]; exact List.drop_left' (by simp))
        have hellN : ellI none = -1 := rfl
        rcases HNX.out with ⟨hrn, hfin⟩ | ⟨c, r', hrc, hc58, hp⟩ | ⟨c, r', hrc, hen, hp⟩ | ⟨hrc, hen, hfin⟩ | ⟨xs, r', hrc, hen, hrd, hxs, hac, hout⟩
        · have hle : (r.length : Int) ≤ (ds.length : Int) := by have hrl2 := HRL2.out; rw [hrn] at hrl2; simp at hrl2; omega
          have hcutA : (⟨r.toArray⟩ : ByteArray).extract ds.length r.length = ⟨#[]⟩ := cut_rest (by rw [HCC.out, hrn])
          have HF := Lib.hid hfin
          clear hfin hrn hfront
          obtain ⟨z1, hcell1, hfr1⟩ := putB_cell (o := 0) hO rfl acc (by omega)
          have HPB := Lib.hid (putB_snoc2 W (w.heap.size + 1) 0 acc (val ds) hvd)
          obtain ⟨z2, hcell2, hfr2⟩ := putB_cell2 (o := 0) hO rfl acc (by omega)
          rw [Nat.zero_add] at hcell1 hfr1 HPB hcell2 hfr2
          have HL := Lib.hid (show (acc ++ two (val ds)).length = acc.length + 2 by simp [two])
          go_wp2
          go_meet
          case rel => exact ⟨acc ++ two (val ds), ell, by first | rfl | (congr 1), by rw [HL.out]; go_num, rfl, HPB.out.symm, HF.out⟩
        · obtain ⟨R1, hR1⟩ : ∃ R1, R1 = rest := ⟨_, rfl⟩
          obtain ⟨R2, hR2⟩ : ∃ R2, R2 = c :: r' := ⟨_, rfl⟩
          have e1 : R1 = 58 :: R2 := by rw [hR1, hrc, hR2]
          have m2 : 0 < R2.length := by rw [hR2]; simp
          have HP2 := Lib.hid (show P6 dot R2 (acc ++ two (val ds)) ell out by rw [hR2]; exact hp)
          have hbB := ba_at (l := R2) (i := 0) (c := c) m2 (by simp [hR2])
          have hc58' : ((c.toNat : Int) == 58) = false := u8ne (y := 58) hc58
          have l1 : R1.length = R2.length + 1 := by rw [e1]; simp
          have m1 : 0 < R1.length := by rw [e1]; simp
          have m0 : 1 < R1.length := by omega
          have hcutA := cut_rest HCC.out
          rw [← hR1] at hcutA
          have hcutB := cut_one e1
          have hbA := ba_at (l := R1) (i := 0) (c := 58) m1 (by simp [e1])
          have hjr : ds.length < r.length := by have hrl2 := HRL2.out; rw [← hR1] at hrl2; omega
          have hat : r[ds.length] = 58 := by
            have h1 := HCC.out
            rw [← hR1, e1] at h1
            exact (drop_cons h1).2.1
          have hbR := ba_at hjr hat
          have hz1 : ((R1.length : Int) == 0) = false := beq_eq_false_iff_ne.mpr (by omega)
          have hz2 : ((R1.length : Int) == 1) = false := beq_eq_false_iff_ne.mpr (by omega)
          have HPRE2 := Lib.hid (show ∃ pre, s = pre ++ R1 by
            obtain ⟨pre, e⟩ := HPR.out
            exact ⟨pre ++ ds.map dg, by rw [e, hR1, List.append_assoc, ← HRE.out]⟩)
          have HPRE3 := Lib.hid (show ∃ pre, s = pre ++ R2 by
            obtain ⟨pre, e⟩ := HPRE2.out
            exact ⟨pre ++ [58], by rw [e, e1]; simp⟩)
          clear hrc hR1 hR2 e1 hp hat hfront hc58 l1
          obtain ⟨z1, hcell1, hfr1⟩ := putB_cell (o := 0) hO rfl acc (by omega)
          have HPB := Lib.hid (putB_snoc2 W (w.heap.size + 1) 0 acc (val ds) hvd)
          obtain ⟨z2, hcell2, hfr2⟩ := putB_cell2 (o := 0) hO rfl acc (by omega)
          rw [Nat.zero_add] at hcell1 hfr1 HPB hcell2 hfr2
          have HL := Lib.hid (show (acc ++ two (val ds)).length = acc.length + 2 by simp [two])
          go_wp2
          go_roundg (gk - 2)
          case measure => omega
          case rel => exact ⟨R2, acc ++ two (val ds), ell, rfl, by rw [HL.out]; go_num, rfl, HPB.out.symm, by have := HL.out; omega, HP2.out, HPRE3.out⟩
        · obtain ⟨R1, hR1⟩ : ∃ R1, R1 = rest := ⟨_, rfl⟩
          obtain ⟨R3, hR3⟩ : ∃ R3, R3 = c :: r' := ⟨_, rfl⟩
          obtain ⟨R2, hR2⟩ : ∃ R2, R2 = 58 :: R3 := ⟨_, rfl⟩
          have e1 : R1 = 58 :: R2 := by rw [hR1, hrc, hR2, hR3]
          have m3 : 0 < R3.length := by rw [hR3]; simp
          have m2 : 0 < R2.length := by rw [hR2]; simp
          have HP2 := Lib.hid (show P6 dot R3 (acc ++ two (val ds)) (some (acc.length + 2)) out by rw [hR3]; exact hp)
          have hbB := ba_at (l := R2) (i := 0) (c := 58) m2 (by simp [hR2])
          have hcutC := cut_one hR2
          have hz3 : ((R3.length : Int) == 0) = false := beq_eq_false_iff_ne.mpr (by omega)
          have l1 : R1.length = R2.length + 1 := by rw [e1]; simp
          have m1 : 0 < R1.length := by rw [e1]; simp
          have m0 : 1 < R1.length := by omega
          have hcutA := cut_rest HCC.out
          rw [← hR1] at hcutA
          have hcutB := cut_one e1
          have hbA := ba_at (l := R1) (i := 0) (c := 58) m1 (by simp [e1])
          have hjr : ds.length < r.length := by have hrl2 := HRL2.out; rw [← hR1] at hrl2; omega
          have hat : r[ds.length] = 58 := by
            have h1 := HCC.out
            rw [← hR1, e1] at h1
            exact (drop_cons h1).2.1
          have hbR := ba_at hjr hat
          have hz1 : ((R1.length : Int) == 0) = false := beq_eq_false_iff_ne.mpr (by omega)
          have hz2 : ((R1.length : Int) == 1) = false := beq_eq_false_iff_ne.mpr (by omega)
          have HPRE2 := Lib.hid (show ∃ pre, s = pre ++ R1 by
            obtain ⟨pre, e⟩ := HPR.out
            exact ⟨pre ++ ds.map dg, by rw [e, hR1, List.append_assoc, ← HRE.out]⟩)
          have HPRE3 := Lib.hid (show ∃ pre, s = pre ++ R3 by
            obtain ⟨pre, e⟩ := HPRE2.out
            exact ⟨pre ++ [58, 58], by rw [e, e1, hR2]; simp⟩)
          subst hen
          clear hrc hR1 hR2 hR3 e1 hp hat hfront l1
          obtain ⟨z1, hcell1, hfr1⟩ := putB_cell (o := 0) hO rfl acc (by omega)
          have HPB := Lib.hid (putB_snoc2 W (w.heap.size + 1) 0 acc (val ds) hvd)
          obtain ⟨z2, hcell2, hfr2⟩ := putB_cell2 (o := 0) hO rfl acc (by omega)
          rw [Nat.zero_add] at hcell1 hfr1 HPB hcell2 hfr2
          have HL := Lib.hid (show (acc ++ two (val ds)).length = acc.length + 2 by simp [two])
          go_wp2
          go_roundg (gk - 2)
          case measure => omega
          case rel => exact ⟨R3, acc ++ two (val ds), some (acc.length + 2), rfl, by rw [HL.out]; go_num, by simp only [ellI]; go_num, HPB.out.symm, by have := HL.out; omega, HP2.out, HPRE3.out⟩
        · obtain ⟨R1, hR1⟩ : ∃ R1, R1 = rest := ⟨_, rfl⟩
          obtain ⟨R2, hR2⟩ : ∃ R2 : List UInt8, R2 = [58] := ⟨_, rfl⟩
          have e1 : R1 = 58 :: R2 := by rw [hR1, hrc, hR2]
          have m2 : 0 < R2.length := by rw [hR2]; simp
          have hbB := ba_at (l := R2) (i := 0) (c := 58) m2 (by simp [hR2])
          have hcutC : (⟨R2.toArray⟩ : ByteArray).extract 1 R2.length = ⟨#[]⟩ := cut_one hR2
          have HF := Lib.hid hfin
          have l1 : R1.length = R2.length + 1 := by rw [e1]; simp
          have m1 : 0 < R1.length := by rw [e1]; simp
          have m0 : 1 < R1.length := by omega
          have hcutA := cut_rest HCC.out
          rw [← hR1] at hcutA
          have hcutB := cut_one e1
          have hbA := ba_at (l := R1) (i := 0) (c := 58) m1 (by simp [e1])
          have hjr : ds.length < r.length := by have hrl2 := HRL2.out; rw [← hR1] at hrl2; omega
          have hat : r[ds.length] = 58 := by
            have h1 := HCC.out
            rw [← hR1, e1] at h1
            exact (drop_cons h1).2.1
          have hbR := ba_at hjr hat
          have hz1 : ((R1.length : Int) == 0) = false := beq_eq_false_iff_ne.mpr (by omega)
          have hz2 : ((R1.length : Int) == 1) = false := beq_eq_false_iff_ne.mpr (by omega)
          have HPRE2 := Lib.hid (show ∃ pre, s = pre ++ R1 by
            obtain ⟨pre, e⟩ := HPR.out
            exact ⟨pre ++ ds.map dg, by rw [e, hR1, List.append_assoc, ← HRE.out]⟩)
          subst hen
          clear hrc hR1 e1 hat hfront hfin hR2 l1
          obtain ⟨z1, hcell1, hfr1⟩ := putB_cell (o := 0) hO rfl acc (by omega)
          have HPB := Lib.hid (putB_snoc2 W (w.heap.size + 1) 0 acc (val ds) hvd)
          obtain ⟨z2, hcell2, hfr2⟩ := putB_cell2 (o := 0) hO rfl acc (by omega)
          rw [Nat.zero_add] at hcell1 hfr1 HPB hcell2 hfr2
          have HL := Lib.hid (show (acc ++ two (val ds)).length = acc.length + 2 by simp [two])
          go_wp2
          go_meet
          case rel => exact ⟨acc ++ two (val ds), some (acc.length + 2), rfl, by rw [HL.out]; go_num, by simp only [ellI]; go_num, HPB.out.symm, HF.out⟩
        · have hjr : ds.length < r.length := by have hrl2 := HRL2.out; rw [hrc] at hrl2; simp at hrl2; omega
          have hat : r[ds.length] = 46 := by
            have h1 := HCC.out
            rw [hrc] at h1
            exact (drop_cons h1).2.1
          have hbR := ba_at hjr hat
          have ha12 : ((acc.length : Int) != 12) = false := by rw [hac]; rfl
          have ha13 : (acc.length : Int) ≤ 12 := by omega
          have HAC := Lib.hid hac
          have hsl : ∀ W' : World, (Instr.sliceAt 62 (.pointer (some ⟨w.heap.size + 1, 0, none⟩)) (some (.int .i64 (acc.length : Int))) (some (.int .i64 ((acc.length : Int) + 4))) none).run Tryd.prog W' = .ok (.slice (some ⟨w.heap.size + 1, 12, none⟩) 4 4) W' := fun W' => slice16 (w.heap.size + 1) 12 16 (by omega) (by omega) (by omega) _ _ (by omega) (by omega) W'
          have HOUT := Lib.hid hout
          have own1 := putB_own (o := 0) hO rfl acc (by omega)
          have hl1 : ((List.replicate 16 (0 : UInt8)).take 0 ++ (acc ++ (List.replicate 16 (0 : UInt8)).drop (0 + acc.length))).length = 16 := by simp; omega
          have fv := fun (Of En : Int) (hOf : Of = ((s.length - r.length : Nat) : Int)) (hEn : En = (s.length : Int)) (o c4 : Nat) (ho : o = 12) => (show Calls Tryd.prog 62 #[.string ⟨s.toArray⟩, .int .i64 Of, .int .i64 En, .slice (some ⟨w.heap.size + 1, o, none⟩) 4 c4] (putB W (w.heap.size + 1) 0 acc) fun e w' => e = .returned .nilIface ∧ w' = putB (putB W (w.heap.size + 1) 0 acc) (w.heap.size + 1) o xs from by
            subst hOf hEn ho
            refine v4f_any ⟨s.toArray⟩ (s.length - r.length) s.length (w.heap.size + 1) 12 c4 16 w.heap.size _ xs _ (by have := hlen; simp [ByteArray.size] at this ⊢; omega) (by omega) (by simp [ByteArray.size]) ?_ hxs 62 own1 hl1 (by omega)
            obtain ⟨pre, e⟩ := HPR.out
            rw [ba_cut, List.take_length, ← hrd]
            congr 2
            rw [e, List.length_append, Nat.add_sub_cancel, List.drop_left])
          have FV := Lib.hid fv
          subst hen
          clear hrc hat hfront hout own1 hl1 fv hrd hac
          go_wp2_with fail
          refine (FV.out _ _ ?hof ?hen _ _ rfl).mono ?_
          case hof => go_light; omega
          case hen => rfl
          rintro e w1 ⟨rfl, hw1⟩
          rw [← HAC.out, ← putB_append' W (w.heap.size + 1) acc xs] at hw1
          subst hw1
          go_wp2
          go_meet
          case rel => exact ⟨acc ++ xs, none, rfl, by simp [hxs], rfl, rfl, .inl ⟨by simp [hxs, HAC.out], rfl, HOUT.out⟩⟩
  case rest =>
    obtain ⟨b, ell, rfl, rfl, rfl, rfl, HF⟩ := hcut
    have hellN : ellI none = -1 := rfl
    have hellS : ∀ k : Nat, ellI (some k) = (k : Int) := fun _ => rfl
    rcases HF.out with ⟨hb16, hen, hout⟩ | ⟨hb16, e, hen, heb, hout⟩
    · subst hen
      obtain ⟨wr, hwr⟩ : ∃ wr, wr = putB W (w.heap.size + 1) 0 b := ⟨_, rfl⟩
      have hOw : wr.ownsRow w.heap.size 62 1 (.slice (some ⟨w.heap.size + 1, 0, none⟩) 16 16) out.length (cb out) := by
        have h := putB_own (o := 0) hO rfl b (by omega)
        rw [hwr, hout]
        have e1 : (List.replicate 16 (0 : UInt8)).take 0 ++ (b ++ (List.replicate 16 (0 : UInt8)).drop (0 + b.length)) = b := by
          rw [List.drop_of_length_le (by simp; omega)]; simp
        rwa [e1] at h
      have hbw : Below w.heap.size w wr := by rw [hwr]; exact putB_below hb (by omega) _ _
      have x0 : wr.cell? ⟨w.heap.size, 0, none⟩ = some (.int .u64 0) := by rw [hwr, putB_other _ _ _ _ _ (by simp)]; exact q0
      have x1 : wr.cell? ⟨w.heap.size, 1, none⟩ = some (.int .u64 0) := by rw [hwr, putB_other _ _ _ _ _ (by simp)]; exact q1
      have x2 : wr.cell? ⟨w.heap.size, 2, none⟩ = some (.pointer none) := by rw [hwr, putB_other _ _ _ _ _ (by simp)]; exact q2
      have y0 : wr.frozen? ⟨w.heap.size, 0, none⟩ = false := by rw [hwr, putB_frozen]; exact HQ.out.1
      have y1 : wr.frozen? ⟨w.heap.size, 1, none⟩ = false := by rw [hwr, putB_frozen]; exact HQ.out.2.1
      have y2 : wr.frozen? ⟨w.heap.size, 2, none⟩ = false := by rw [hwr, putB_frozen]; exact HQ.out.2.2
      have hsr : wr.heap.size = w.heap.size + 2 := by rw [hwr, putB_size, HSZ.out]
      have hlt1 : w.heap.size + 1 < wr.heap.size := by omega
      have hbl : (16 : Int) ≤ (b.length : Int) := by omega
      rw [← hwr]
      clear hwr hout hsr hb16 q0 q1 q2 hO
      have zr := hz.below hbw
      have hg := own_bytes hOw HOL.out
      have hi16 : (Tryd.prog.info? 62).map (·.size) = some (cb out).toArray.size := by rw [info16]; simp [cb_length, HOL.out]
      have HG := Lib.hid hg
      have HI := Lib.hid hi16
      clear hg hi16
      go_wp2_with (refine wpList_load_row rfl 62 _ rfl (w.heap.size + 1) rfl _ (cb out).toArray _ _ HG.out Tryd.underlying62 rfl HI.out ?_)
      refine (FR.out _ zr).mono ?_
      rintro e5 w2 ⟨rfl, hb2⟩
      go_wp2_with fail
      refine (FZ.out _ (zr.below hb2)).mono ?_
      rintro e6 w3 ⟨rfl, hb3'⟩
      have hb3 := hb2.trans (hb3'.mono hb2.size)
      have hs3 := hb3.size
      have c0 := (hb3.cell (p := ⟨w.heap.size, 0, none⟩) (by simp; omega)).trans x0
      have c1 := (hb3.cell (p := ⟨w.heap.size, 1, none⟩) (by simp; omega)).trans x1
      have c2 := (hb3.cell (p := ⟨w.heap.size, 2, none⟩) (by simp; omega)).trans x2
      have f0 := (hb3.frozen (p := ⟨w.heap.size, 0, none⟩) (by simp; omega)).trans y0
      have f1 := (hb3.frozen (p := ⟨w.heap.size, 1, none⟩) (by simp; omega)).trans y1
      have f2 := (hb3.frozen (p := ⟨w.heap.size, 2, none⟩) (by simp; omega)).trans y2
      obtain ⟨g0, g1, g2⟩ := set3 (.int .u64 (hh : Int)) (.int .u64 (ll : Int)) (.pointer (some p6)) c0 c1 c2
      have hbB : Below w.heap.size w w3 := hbw.trans (hb3.mono hbw.size)
      go_wp2
      refine bodyPost_ret (v := .tuple #[.agg #[.int .u64 (hh : Int), .int .u64 (ll : Int), .pointer (some p6)], .nilIface]) (by simp [results, Tryd.results52, go_sem, g0, g1, g2]) rfl ⟨rfl, ?_⟩
      exact ((hbB.setCell (p := ⟨w.heap.size, 0, none⟩) (Nat.le_refl _) _).setCell (p := ⟨w.heap.size, 1, none⟩) (Nat.le_refl _) _).setCell (p := ⟨w.heap.size, 2, none⟩) (Nat.le_refl _) _
    · subst hen
      obtain ⟨N, hN⟩ : ∃ N : Nat, N + b.length = 16 := ⟨16 - b.length, by omega⟩
      have hn16 : (16 : Int) - (b.length : Int) = (N : Int) := by omega
      have hbl : (b.length : Int) < 16 := by omega
      have hNpos : 0 < N := by omega
      have HN := Lib.hid hN
      have HOUT := Lib.hid (show out = b.take e ++ (List.replicate N 0 ++ b.drop e) by rw [hout, show 16 - b.length = N by omega])
      have hstart : ∃ wr, wr = putB W (w.heap.size + 1) 0 b := ⟨_, rfl⟩
      obtain ⟨wr0, hwr⟩ := hstart
      have hOw : wr0.ownsRow w.heap.size 62 1 (.slice (some ⟨w.heap.size + 1, 0, none⟩) 16 16) (shf b N b.length).length (cb (shf b N b.length)) := by
        have h := putB_own (o := 0) hO rfl b (by omega)
        rw [hwr, shf_top]
        have e1 : (List.replicate 16 (0 : UInt8)).take 0 ++ (b ++ (List.replicate 16 (0 : UInt8)).drop (0 + b.length)) = b ++ List.replicate N 0 := by
          rw [List.take_zero, List.nil_append, Nat.zero_add, List.drop_replicate, show 16 - b.length = N by omega]
        rwa [e1] at h
      have hbw : Below w.heap.size w wr0 := by rw [hwr]; exact putB_below hb (by omega) _ _
      have x0 : wr0.cell? ⟨w.heap.size, 0, none⟩ = some (.int .u64 0) := by rw [hwr, putB_other _ _ _ _ _ (by simp)]; exact q0
      have x1 : wr0.cell? ⟨w.heap.size, 1, none⟩ = some (.int .u64 0) := by rw [hwr, putB_other _ _ _ _ _ (by simp)]; exact q1
      have x2 : wr0.cell? ⟨w.heap.size, 2, none⟩ = some (.pointer none) := by rw [hwr, putB_other _ _ _ _ _ (by simp)]; exact q2
      have y0 : wr0.frozen? ⟨w.heap.size, 0, none⟩ = false := by rw [hwr, putB_frozen]; exact HQ.out.1
      have y1 : wr0.frozen? ⟨w.heap.size, 1, none⟩ = false := by rw [hwr, putB_frozen]; exact HQ.out.2.1
      have y2 : wr0.frozen? ⟨w.heap.size, 2, none⟩ = false := by rw [hwr, putB_frozen]; exact HQ.out.2.2
      have hsr : wr0.heap.size = w.heap.size + 2 := by rw [hwr, putB_size, HSZ.out]
      have hlt1 : w.heap.size + 1 < wr0.heap.size := by omega
      have HST := Lib.hid (show wr0.ownsRow w.heap.size 62 1 (.slice (some ⟨w.heap.size + 1, 0, none⟩) 16 16) (shf b N b.length).length (cb (shf b N b.length)) ∧ Below w.heap.size w wr0 ∧ w.heap.size + 1 < wr0.heap.size ∧ (wr0.cell? ⟨w.heap.size, 0, none⟩ = some (.int .u64 0) ∧ wr0.cell? ⟨w.heap.size, 1, none⟩ = some (.int .u64 0) ∧ wr0.cell? ⟨w.heap.size, 2, none⟩ = some (.pointer none)) ∧ (wr0.frozen? ⟨w.heap.size, 0, none⟩ = false ∧ wr0.frozen? ⟨w.heap.size, 1, none⟩ = false ∧ wr0.frozen? ⟨w.heap.size, 2, none⟩ = false) from ⟨hOw, hbw, hlt1, ⟨x0, x1, x2⟩, y0, y1, y2⟩)
      rw [← hwr]
      clear hwr hout hsr hN q0 q1 q2 hO hOw x0 x1 x2 y0 y1 y2 hlt1 hbw hb16
      go_wp2
      go_loopg [15] (b.length - e) (fun k s15 wr => ∃ (m : Nat) (J : Int), s15 = .int .i64 J ∧ Hid (J = (m : Int) - 1) ∧ m ≤ b.length ∧ Hid (m = e + k) ∧ wr.ownsRow w.heap.size 62 1 (.slice (some ⟨w.heap.size + 1, 0, none⟩) 16 16) (shf b N m).length (cb (shf b N m)) ∧ Below w.heap.size w wr ∧ w.heap.size + 1 < wr.heap.size ∧ (wr.cell? ⟨w.heap.size, 0, none⟩ = some (.int .u64 0) ∧ wr.cell? ⟨w.heap.size, 1, none⟩ = some (.int .u64 0) ∧ wr.cell? ⟨w.heap.size, 2, none⟩ = some (.pointer none)) ∧ (wr.frozen? ⟨w.heap.size, 0, none⟩ = false ∧ wr.frozen? ⟨w.heap.size, 1, none⟩ = false ∧ wr.frozen? ⟨w.heap.size, 2, none⟩ = false))
      case atStart => exact ⟨b.length, _, rfl, rfl, Nat.le_refl _, (by show b.length = _; omega), HST.out⟩
      case round =>
        obtain ⟨m, J, rfl, HJ, hmb, HME, hOw, hbw, hlt1, ⟨x0, x1, x2⟩, y0, y1, y2⟩ := hrel
        by_cases hem : e < m
        · obtain ⟨m', rfl⟩ : ∃ m', m = m' + 1 := ⟨m - 1, by omega⟩
          obtain rfl : J = (m' : Int) := by have := HJ.out; omega
          have hsl := shf_len HN.out hmb
          have hmm : m' < b.length := by omega
          have hm1 : m' < (shf b N (m' + 1)).length := by rw [hsl]; have := HN.out; omega
          have hm2 : m' + N < (shf b N (m' + 1)).length := by rw [hsl]; have := HN.out; omega
          obtain ⟨x, hx⟩ : ∃ x, x = b[m'] := ⟨_, rfl⟩
          have hgm : wr.cell? ⟨w.heap.size + 1, m', none⟩ = some (.int .u8 (x.toNat : Int)) := by
            rw [own_cell (j := m') hOw hm1 hsl, shf_get HN.out hmm, hx]
          obtain ⟨z, hgn⟩ : ∃ z, wr.cell? ⟨w.heap.size + 1, m' + N, none⟩ = some z := ⟨_, own_cell (j := m' + N) hOw hm2 hsl⟩
          have hfn := own_frozen hOw (m' + N) hsl
          have hnew := own_store (j := m' + N) hOw x hsl
          rw [hx, shf_step HN.out hmm, ← hx] at hnew
          have HNEW := Lib.hid hnew
          have hi1 : (m' : Int) < 16 := by omega
          have hi2 : (m' : Int) + (N : Int) < 16 := by have := HN.out; omega
          have hi3 : (e : Int) ≤ (m' : Int) := by omega
          have n0 : ∀ k, (⟨w.heap.size + 1, m' + N, none⟩ : Addr) ≠ ⟨w.heap.size, k, none⟩ := fun k => by simp
          have HX := Lib.hid (show (wr.setCell ⟨w.heap.size + 1, m' + N, none⟩ (.int .u8 (x.toNat : Int))).cell? ⟨w.heap.size, 0, none⟩ = some (.int .u64 0) ∧ (wr.setCell ⟨w.heap.size + 1, m' + N, none⟩ (.int .u8 (x.toNat : Int))).cell? ⟨w.heap.size, 1, none⟩ = some (.int .u64 0) ∧ (wr.setCell ⟨w.heap.size + 1, m' + N, none⟩ (.int .u8 (x.toNat : Int))).cell? ⟨w.heap.size, 2, none⟩ = some (.pointer none) from ⟨(World.cell?_setCell_other _ _ _ _ (n0 0)).trans x0, (World.cell?_setCell_other _ _ _ _ (n0 1)).trans x1, (World.cell?_setCell_other _ _ _ _ (n0 2)).trans x2⟩)
          clear hnew hsl hx n0
          go_wp2
          go_roundg (gk - 1)
          case measure => have := HME.out; omega
          case rel => exact ⟨m', _, rfl, rfl, by omega, (by show m' = _; have := HME.out; omega), HNEW.out, hbw.setCell (p := ⟨w.heap.size + 1, m' + N, none⟩) (Nat.le_succ _) _, by simpa using hlt1, HX.out, by simpa using y0, by simpa using y1, by simpa using y2⟩
        · have hme : m = e := by have := HME.out; omega
          subst hme
          have hJe : J < (m : Int) := by have := HJ.out; omega
          have hsl := shf_len HN.out hmb
          have hNl := HN.out
          have hslc : ∀ W' : World, (Instr.sliceAt 62 (.pointer (some ⟨w.heap.size + 1, 0, none⟩)) (some (.int .i64 (m : Int))) (some (.int .i64 ((m : Int) + (N : Int)))) none).run Tryd.prog W' = .ok (.slice (some ⟨w.heap.size + 1, m, none⟩) N (16 - m)) W' := fun W' => by
            have h := slice16 (w.heap.size + 1) m (m + N) (by omega) (by omega) (by omega) (m : Int) ((m : Int) + (N : Int)) rfl (by omega) W'
            rwa [show m + N - m = N by omega] at h
          have hcl := fun ty => clear16 (o := m) (n := N) (c := 16 - m) hOw hsl hNpos (by omega) ty
          obtain ⟨wc, hwc⟩ : ∃ wc, wc = putB wr (w.heap.size + 1) m (List.replicate N 0) := ⟨_, rfl⟩
          rw [← hwc] at hcl
          have hOc : wc.ownsRow w.heap.size 62 1 (.slice (some ⟨w.heap.size + 1, 0, none⟩) 16 16) out.length (cb out) := by
            have h := putB_own (o := m) hOw hsl (List.replicate N 0) (by simp; omega)
            rw [shf_end HN.out hmb, ← HOUT.out, ← hwc] at h
            exact h
          have hbc : Below w.heap.size w wc := by rw [hwc]; exact putB_below hbw (by omega) _ _
          have X0 : wc.cell? ⟨w.heap.size, 0, none⟩ = some (.int .u64 0) := by rw [hwc, putB_other _ _ _ _ _ (by simp)]; exact x0
          have X1 : wc.cell? ⟨w.heap.size, 1, none⟩ = some (.int .u64 0) := by rw [hwc, putB_other _ _ _ _ _ (by simp)]; exact x1
          have X2 : wc.cell? ⟨w.heap.size, 2, none⟩ = some (.pointer none) := by rw [hwc, putB_other _ _ _ _ _ (by simp)]; exact x2
          have Y0 : wc.frozen? ⟨w.heap.size, 0, none⟩ = false := by rw [hwc, putB_frozen]; exact y0
          have Y1 : wc.frozen? ⟨w.heap.size, 1, none⟩ = false := by rw [hwc, putB_frozen]; exact y1
          have Y2 : wc.frozen? ⟨w.heap.size, 2, none⟩ = false := by rw [hwc, putB_frozen]; exact y2
          have hltc : w.heap.size + 1 < wc.heap.size := by rw [hwc, putB_size]; exact hlt1
          have hmN : (m : Int) + (N : Int) ≤ 16 := by omega
          clear hsl hNl hwc hOw hbw hlt1 x0 x1 x2 y0 y1 y2 HJ HME
          have zr := hz.below hbc
          have hg := own_bytes hOc HOL.out
          have hi16 : (Tryd.prog.info? 62).map (·.size) = some (cb out).toArray.size := by rw [info16]; simp [cb_length, HOL.out]
          have HG := Lib.hid hg
          have HI := Lib.hid hi16
          clear hg hi16
          go_wp2_with (refine wpList_load_row rfl 62 _ rfl (w.heap.size + 1) rfl _ (cb out).toArray _ _ HG.out Tryd.underlying62 rfl HI.out ?_)
          refine (FR.out _ zr).mono ?_
          rintro e5 w2 ⟨rfl, hb2⟩
          go_wp2_with fail
          refine (FZ.out _ (zr.below hb2)).mono ?_
          rintro e6 w3 ⟨rfl, hb3'⟩
          have hb3 := hb2.trans (hb3'.mono hb2.size)
          have hs3 := hb3.size
          have c0 := (hb3.cell (p := ⟨w.heap.size, 0, none⟩) (by simp; omega)).trans X0
          have c1 := (hb3.cell (p := ⟨w.heap.size, 1, none⟩) (by simp; omega)).trans X1
          have c2 := (hb3.cell (p := ⟨w.heap.size, 2, none⟩) (by simp; omega)).trans X2
          have f0 := (hb3.frozen (p := ⟨w.heap.size, 0, none⟩) (by simp; omega)).trans Y0
          have f1 := (hb3.frozen (p := ⟨w.heap.size, 1, none⟩) (by simp; omega)).trans Y1
          have f2 := (hb3.frozen (p := ⟨w.heap.size, 2, none⟩) (by simp; omega)).trans Y2
          obtain ⟨g0, g1, g2⟩ := set3 (.int .u64 (hh : Int)) (.int .u64 (ll : Int)) (.pointer (some p6)) c0 c1 c2
          have hbB : Below w.heap.size w w3 := hbc.trans (hb3.mono hbc.size)
          go_wp2
          refine bodyPost_ret (v := .tuple #[.agg #[.int .u64 (hh : Int), .int .u64 (ll : Int), .pointer (some p6)], .nilIface]) (by simp [results, Tryd.results52, go_sem, g0, g1, g2]) rfl ⟨rfl, ?_⟩
          exact ((hbB.setCell (p := ⟨w.heap.size, 0, none⟩) (Nat.le_refl _) _).setCell (p := ⟨w.heap.size, 1, none⟩) (Nat.le_refl _) _).setCell (p := ⟨w.heap.size, 2, none⟩) (Nat.le_refl _) _
end Go.Proofs.YtkmjejgeeghjmaaDoor
