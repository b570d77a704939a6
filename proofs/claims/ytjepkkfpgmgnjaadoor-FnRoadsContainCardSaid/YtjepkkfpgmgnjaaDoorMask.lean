/-
  Contracts of net.allFF, (net.IP).Mask and impl.Mask: the bits that an address and a mask both have. (net.IP).Mask reads the package-level variable net.v4InV6Prefix (V4). No condition but the lengths' (2^47).
-/
import Derived.Test.YtjepkkfpgmgnjaaDoorAndP
import Derived.Test.YtjepkkfpgmgnjaaDoorBeq
import Derived.Test.YtjepkkfpgmgnjaaDoorV4
namespace Go.Proofs.YtjepkkfpgmgnjaaDoor
open Go.RowKit
set_option linter.unusedVariables false

/-- twelve times 255 -/
def ff12 : List UInt8 := [255, 255, 255, 255, 255, 255, 255, 255, 255, 255, 255, 255]
/-- are all bytes 255? -/
def allf (xs : List UInt8) : Bool := xs.all (· == 255)
theorem allf_false {xs : List UInt8} {k : Nat} (h : k < xs.length) (hne : (xs[k].toNat : Int) ≠ 255) : allf xs = false := by
  simp only [allf, List.all_eq_false]
  refine ⟨xs[k], List.getElem_mem h, ?_⟩
  intro he
  have : xs[k] = 255 := by simpa using he
  rw [this] at hne
  exact hne rfl
theorem allf_true {xs : List UInt8} (h : ∀ j (hj : j < xs.length), (xs[j].toNat : Int) = 255) : allf xs = true := by
  simp only [allf, List.all_eq_true]
  intro x hx
  obtain ⟨j, hj, rfl⟩ := List.getElem_of_mem hx
  have := h j hj
  simp only [beq_iff_eq]
  exact UInt8.toNat_inj.mp (by have h255 : (255 : UInt8).toNat = 255 := rfl; omega)
theorem allf_iff {xs : List UInt8} (hn : xs.length = 12) : allf xs = true ↔ xs = ff12 := by
  match xs, hn with
  | [x0, x1, x2, x3, x4, x5, x6, x7, x8, x9, x10, x11], _ => simp [ff12, allf]

set_option maxHeartbeats 400000 in
theorem allFF_any (A : Option Addr) (n c : Nat) (xs : List UInt8) (w : World) (hn : xs.length = n) (ha : Rd w A xs) (hs : n ≤ 9223372036854775807) (r : Bool) (hr : allf xs = r) :
    Calls Tryd.prog 56 #[.slice A n c] w fun e w' => e = .returned (.bool r) ∧ w = w' := by
  subst hn hr
  go_enter Tryd.func56, Tryd.ntmps56
  go_wp2
  go_loop [7] (fun i => ∃ k : Nat, k ≤ xs.length ∧ i = .int .i64 k ∧ Hid (∀ j (h1 : j < xs.length), j < k → (xs[j].toNat : Int) = 255)) (fun i => xs.length - (intOf i).toNat)
  case atStart => exact ⟨0, Nat.zero_le _, rfl, fun j _ h => absurd h (by omega)⟩
  case round =>
    obtain ⟨k, hk, rfl, HS⟩ := hrel
    by_cases hlt : k < xs.length
    · obtain ⟨b, off, rfl, _, hc⟩ := ha.at_ hlt
      have h1 := hc k hlt
      clear hc
      go_wp2
      · go_ret
        have hd : ((xs[k].toNat : Int) != 255) = true := by assumption
        rw [allf_false hlt (by simpa using hd)]
        exact ⟨rfl, rfl⟩
      · go_round
        case rel =>
          have hd : ((xs[k].toNat : Int) != 255) = false := by assumption
          refine ⟨k + 1, by omega, by go_num, fun j a1 hj => ?_⟩
          rcases Nat.lt_or_ge j k with hjk | hjk
          · exact HS.out j a1 hjk
          · obtain rfl : j = k := by omega
            simpa using hd
        case measure => simp [intOf]; omega
    · go_wp2
      go_ret
      rw [allf_true (fun j hj => HS.out j hj (by omega))]
      exact ⟨rfl, rfl⟩

/-- the first k bytes of both masked, then zeros -/
def andTo (xs ys : List UInt8) (k : Nat) : List UInt8 := (andL xs ys).take k ++ List.replicate (xs.length - k) 0
theorem andTo_zero (xs ys : List UInt8) : andTo xs ys 0 = List.replicate xs.length 0 := by simp [andTo]
theorem andTo_length (xs ys : List UInt8) (k : Nat) (h : xs.length ≤ ys.length) (hk : k ≤ xs.length) : (andTo xs ys k).length = xs.length := by
  simp [andTo, andL_length xs ys h]; omega
theorem andTo_all (xs ys : List UInt8) (k : Nat) (h : xs.length ≤ ys.length) (hk : xs.length ≤ k) : andTo xs ys k = andL xs ys := by
  simp [andTo, List.take_of_length_le (show (andL xs ys).length ≤ k by rw [andL_length xs ys h]; exact hk), show xs.length - k = 0 by omega]
theorem andTo_step (xs ys : List UInt8) (k : Nat) (h1 : k < xs.length) (h2 : k < ys.length) : (andTo xs ys k).set k (xs[k] &&& ys[k]) = andTo xs ys (k + 1) := by
  unfold andTo
  have e1 : ((andL xs ys).take k).length = k := by simp [andL]; omega
  rw [List.set_append_right _ _ (by omega), e1, Nat.sub_self, show xs.length - k = (xs.length - (k + 1)) + 1 by omega, List.replicate_succ, List.set_cons_zero]
  rw [andL_step xs ys k h1 h2]
  simp

/-- the mask and the address that are masked: an address and a mask of one length -/
def maskL (xs ms : List UInt8) : Option (List UInt8) :=
  if xs.length = ms.length then some (andL xs ms)
  else if xs.length = 4 ∧ ms.length = 16 ∧ ms.take 12 = ff12 then some (andL xs (ms.drop 12))
  else if xs.length = 16 ∧ ms.length = 4 ∧ xs.take 12 = mp then some (andL (xs.drop 12) ms)
  else none
theorem maskL_same {xs ms : List UInt8} (h : xs.length = ms.length) : maskL xs ms = some (andL xs ms) := by simp [maskL, h]
theorem maskL_46 {xs ms : List UInt8} (h : xs.length = 4) (h2 : ms.length = 16) (h3 : ms.take 12 = ff12) : maskL xs ms = some (andL xs (ms.drop 12)) := by simp [maskL, h, h2, h3]
theorem maskL_46n {xs ms : List UInt8} (h : xs.length = 4) (h2 : ms.length = 16) (h3 : ms.take 12 ≠ ff12) : maskL xs ms = none := by simp [maskL, h, h2, h3]
theorem maskL_64 {xs ms : List UInt8} (h : xs.length = 16) (h2 : ms.length = 4) (h3 : xs.take 12 = mp) : maskL xs ms = some (andL (xs.drop 12) ms) := by simp [maskL, h, h2, h3]
theorem maskL_64n {xs ms : List UInt8} (h : xs.length = 16) (h2 : ms.length = 4) (h3 : xs.take 12 ≠ mp) : maskL xs ms = none := by simp [maskL, h, h2, h3]
theorem maskL_other {xs ms : List UInt8} (h : xs.length ≠ ms.length) (h2 : ¬ (xs.length = 4 ∧ ms.length = 16)) (h3 : ¬ (xs.length = 16 ∧ ms.length = 4)) : maskL xs ms = none := by
  simp only [maskL]
  rw [if_neg h, if_neg (fun k => h2 ⟨k.1, k.2.1⟩), if_neg (fun k => h3 ⟨k.1, k.2.1⟩)]
theorem maskL_le (xs ms : List UInt8) : ((maskL xs ms).getD []).length ≤ xs.length := by
  unfold maskL
  split
  · simp [andL]; omega
  · split
    · simp [andL]; omega
    · split
      · simp [andL]; omega
      · simp

set_option maxHeartbeats 1000000 in
theorem netMask_same (A M : Option Addr) (n c d : Nat) (xs ms : List UInt8) (w : World) (hx : xs.length = n) (hms : ms.length = n) (ha : Rd w A xs) (hm : Rd w M ms) (hs : n ≤ 140737488351232) (t2 : (((n : Int) == 4) && ((n : Int) == 16)) = false)
    (t1 : (((n : Int) == 16) && ((n : Int) == 4)) = false) (a4 : Bool) (h4 : ((n : Int) == 4) = a4) (a16 : Bool) (h16 : ((n : Int) == 16) = a16) (hno : (a4 && a16) = false) :
    Calls Tryd.prog 38 #[.slice A n c, .slice M n d] w fun e w' => BackOpt w (maskL xs ms) e w' := by
  have HX := Lib.hid hx
  have HM := Lib.hid hms
  have HT := Lib.hid (maskL_same (hx.trans hms.symm))
  clear hx hms t1 t2
  rcases a4 with _ | _ <;> rcases a16 with _ | _
  all_goals first | (exact absurd hno (by decide)) | skip
  all_goals
    clear hno
    go_enter Tryd.func38, Tryd.ntmps38
    go_wp2
    go_quiet (fail)
    go_wp2_with (refine wpList_mk8 rfl (.tmp 45) (.tmp 45) 46 rfl 5 Tryd.underlying46 info8 .i64 .i64 _ _ n rfl rfl ?h1 ?h2 ?h3 ?_)
    case h1 => simp
    case h2 => simp
    case h3 => omega
    intro w1 hown hg
    have hb1 : Below w.heap.size w w1 := below_undrewN ((Below.refl w.heap.size (w.drewN nq)).grown hg (Nat.le_refl _) (by simp))
    have ho1 : w1.ownsRow w.heap.size 5 1 (.slice (some ⟨w.heap.size, 0, none⟩) n n) (andTo xs ms 0).length (cb (andTo xs ms 0)) := by
      rw [andTo_zero, HX.out]; simpa using hown
    clear hown hg
    go_wp2
    go_loopw [7] (fun i wr => ∃ k : Nat, k ≤ n ∧ i = .int .i64 k ∧ wr.ownsRow w.heap.size 5 1 (.slice (some ⟨w.heap.size, 0, none⟩) n n) (andTo xs ms k).length (cb (andTo xs ms k)) ∧ Below w.heap.size w wr) (fun i _ => n - (intOf i).toNat)
    case atStart => exact ⟨0, Nat.zero_le _, rfl, ho1, hb1⟩
    case round =>
      obtain ⟨k, hk, rfl, ho, hb⟩ := hrel
      by_cases hlt : k < n
      · have l1 : k < (xs).length := by rw [HX.out]; exact hlt
        have l2 : k < (ms).length := by rw [HM.out]; exact hlt
        obtain ⟨b1, o1, e1, _, q1⟩ := (ha.below hb).at_ l1
        obtain ⟨b2, o2, e2, _, q2⟩ := (hm.below hb).at_ l2
        subst_eqs
        have g1 := q1 k l1
        have g2 := q2 k l2
        clear q1 q2
        have hlen := andTo_length xs ms k (by rw [HX.out, HM.out]; exact Nat.le_refl _) (by omega)
        rw [HX.out] at hlen
        have c0 := own_cell ho (j := k) (by omega) hlen
        have f0 := own_frozen ho k hlen
        generalize (andTo xs ms k)[k] = y at c0
        have HS := Lib.hid (andTo_step xs ms k l1 l2)
        have HL := Lib.hid hlen
        clear hlen
        generalize (xs)[k] = x at g1 HS
        generalize (ms)[k] = z at g2 HS
        have hand := Lib.hid (and_u8 x z)
        go_wp2
        go_region
        all_goals
          go_wp2
          go_roundw
          case rel =>
            have R := own_store ho (j := k) (x &&& z) HL.out
            rw [HS.out] at R
            rw [hand.out]
            exact ⟨k + 1, by omega, by go_num, R, (hb.setCell (p := ⟨w.heap.size, k, none⟩) (Nat.le_refl _) _).drew⟩
          case measure => simp [intOf]; omega
      · have e1 : andTo xs ms k = andL xs ms := andTo_all _ _ _ (by rw [HX.out, HM.out]; exact Nat.le_refl _) (by rw [HX.out]; omega)
        rw [e1] at ho
        clear e1
        go_wp2
        go_ret
        exact BackOpt.some_ HT.out (by rw [andL_length _ _ (by rw [HX.out, HM.out]; exact Nat.le_refl _), HX.out]) (Nat.le_refl _) (Rd.of_own ho) hb

set_option maxHeartbeats 1000000 in
theorem netMask_46 (A M : Option Addr) (c d : Nat) (xs ms : List UInt8) (w : World) (hx : xs.length = 4) (hms : ms.length = 16) (hf : ms.take 12 = ff12) (ha : Rd w A xs) (hm0 : Rd w M ms) (hd : 16 ≤ d) :
    Calls Tryd.prog 38 #[.slice A 4 c, .slice M 16 d] w fun e w' => BackOpt w (maskL xs ms) e w' := by
  have HX := Lib.hid hx
  have HT := Lib.hid (maskL_46 hx hms hf)
  have HF := Lib.hid ((allf_iff (by simp [hms])).mpr hf)
  have H12 := Lib.hid (show (ms.take 12).length = 12 by simp [hms])
  have HM := Lib.hid (show (ms.drop 12).length = 4 by simp [hms])
  obtain ⟨mb, mo, rfl, _⟩ := hm0.at_ (k := 0) (by omega)
  have hm := hm0.drop 12
  have hm12 := hm0.cut0 12
  clear hx hms hf
  go_enter Tryd.func38, Tryd.ntmps38
  go_wp2_with (go_at_call 56; refine (allFF_any _ _ _ (ms.take 12) _ H12.out (by exact hm12) (by decide) true HF.out).mono ?_; rintro e w' ⟨rfl, rfl⟩)
  go_quiet (fail)
  go_wp2_with (refine wpList_mk8 rfl (.tmp 45) (.tmp 45) 46 rfl 5 Tryd.underlying46 info8 .i64 .i64 _ _ 4 rfl rfl ?h1 ?h2 ?h3 ?_)
  case h1 => simp
  case h2 => simp
  case h3 => omega
  intro w1 hown hg
  have hb1 : Below w.heap.size w w1 := below_undrewN ((Below.refl w.heap.size (w.drewN nq)).grown hg (Nat.le_refl _) (by simp))
  have ho1 : w1.ownsRow w.heap.size 5 1 (.slice (some ⟨w.heap.size, 0, none⟩) 4 4) (andTo xs (ms.drop 12) 0).length (cb (andTo xs (ms.drop 12) 0)) := by
    rw [andTo_zero, HX.out]; simpa using hown
  clear hown hg
  go_wp2
  go_loopw [7] (fun i wr => ∃ k : Nat, k ≤ 4 ∧ i = .int .i64 k ∧ wr.ownsRow w.heap.size 5 1 (.slice (some ⟨w.heap.size, 0, none⟩) 4 4) (andTo xs (ms.drop 12) k).length (cb (andTo xs (ms.drop 12) k)) ∧ Below w.heap.size w wr) (fun i _ => 4 - (intOf i).toNat)
  case atStart => exact ⟨0, Nat.zero_le _, rfl, ho1, hb1⟩
  case round =>
    obtain ⟨k, hk, rfl, ho, hb⟩ := hrel
    by_cases hlt : k < 4
    · have l1 : k < (xs).length := by rw [HX.out]; exact hlt
      have l2 : k < ((ms.drop 12)).length := by rw [HM.out]; exact hlt
      obtain ⟨b1, o1, e1, _, q1⟩ := (ha.below hb).at_ l1
      obtain ⟨b2, o2, e2, _, q2⟩ := (hm.below hb).at_ l2
      subst_eqs
      have g1 := q1 k l1
      have g2 := q2 k l2
      clear q1 q2
      have hlen := andTo_length xs (ms.drop 12) k (by rw [HX.out, HM.out]; exact Nat.le_refl _) (by omega)
      rw [HX.out] at hlen
      have c0 := own_cell ho (j := k) (by omega) hlen
      have f0 := own_frozen ho k hlen
      generalize (andTo xs (ms.drop 12) k)[k] = y at c0
      have HS := Lib.hid (andTo_step xs (ms.drop 12) k l1 l2)
      have HL := Lib.hid hlen
      clear hlen
      generalize (xs)[k] = x at g1 HS
      generalize ((ms.drop 12))[k] = z at g2 HS
      have hand := Lib.hid (and_u8 x z)
      go_wp2
      go_region
      all_goals
        go_wp2
        go_roundw
        case rel =>
          have R := own_store ho (j := k) (x &&& z) HL.out
          rw [HS.out] at R
          rw [hand.out]
          exact ⟨k + 1, by omega, by go_num, R, (hb.setCell (p := ⟨w.heap.size, k, none⟩) (Nat.le_refl _) _).drew⟩
        case measure => simp [intOf]; omega
    · have e1 : andTo xs (ms.drop 12) k = andL xs (ms.drop 12) := andTo_all _ _ _ (by rw [HX.out, HM.out]; exact Nat.le_refl _) (by rw [HX.out]; omega)
      rw [e1] at ho
      clear e1
      go_wp2
      go_ret
      exact BackOpt.some_ HT.out (by rw [andL_length _ _ (by rw [HX.out, HM.out]; exact Nat.le_refl _), HX.out]) (Nat.le_refl _) (Rd.of_own ho) hb

set_option maxHeartbeats 1000000 in
theorem netMask_46n (A M : Option Addr) (c d : Nat) (xs ms : List UInt8) (w : World) (hx : xs.length = 4) (hms : ms.length = 16) (hf : ms.take 12 ≠ ff12) (ha : Rd w A xs) (hm0 : Rd w M ms) (hd : 16 ≤ d) :
    Calls Tryd.prog 38 #[.slice A 4 c, .slice M 16 d] w fun e w' => BackOpt w (maskL xs ms) e w' := by
  have HX := Lib.hid hx
  have HT := Lib.hid (maskL_46n hx hms hf)
  have HF := Lib.hid (show allf (ms.take 12) = false by
    rcases h : allf (ms.take 12) with _ | _
    · rfl
    · exact absurd ((allf_iff (by simp [hms])).mp h) hf)
  have H12 := Lib.hid (show (ms.take 12).length = 12 by simp [hms])
  obtain ⟨mb, mo, rfl, _⟩ := hm0.at_ (k := 0) (by omega)
  have hm12 := hm0.cut0 12
  clear hx hms hf
  go_enter Tryd.func38, Tryd.ntmps38
  go_wp2_with (go_at_call 56; refine (allFF_any _ _ _ (ms.take 12) _ H12.out (by exact hm12) (by decide) false HF.out).mono ?_; rintro e w' ⟨rfl, rfl⟩)
  go_quiet (fail)
  go_wp2
  go_ret
  exact BackOpt.none_ HT.out (below_drewN (Below.refl _ _) _)

set_option maxHeartbeats 1000000 in
theorem netMask_64 (A M : Option Addr) (c d : Nat) (xs ms : List UInt8) (w : World) (hv : V4 w) (hx : xs.length = 16) (hms : ms.length = 4) (hf : xs.take 12 = mp) (ha0 : Rd w A xs) (hm : Rd w M ms) (hc : 16 ≤ c) :
    Calls Tryd.prog 38 #[.slice A 16 c, .slice M 4 d] w fun e w' => BackOpt w (maskL xs ms) e w' := by
  have HM := Lib.hid hms
  have HT := Lib.hid (maskL_64 hx hms hf)
  have HF := Lib.hid (eqb_true hf)
  have H12 := Lib.hid (show (xs.take 12).length = 12 by simp [hx])
  have HX := Lib.hid (show (xs.drop 12).length = 4 by simp [hx])
  obtain ⟨mb, mo, rfl, _⟩ := ha0.at_ (k := 0) (by omega)
  have ha := ha0.drop 12
  have ha12 := ha0.cut0 12
  obtain ⟨vb, vo, vc, hcell, hvc, hvlt, hrd⟩ := hv
  have hc1 : (12 : Int) ≤ (c : Int) := by omega
  have hc2 : (16 : Int) ≤ (c : Int) := by omega
  clear hx hms hf
  go_enter Tryd.func38, Tryd.ntmps38
  go_wp2
  go_quiet ((go_at_call 57; refine Calls.quiet_of_same (beqEq_any _ _ _ _ _ _ (xs.take 12) mp _ H12.out rfl (by exact ha12) (by exact hrd) true HF.out)))
  go_wp2_with (refine wpList_mk8 rfl (.tmp 45) (.tmp 45) 46 rfl 5 Tryd.underlying46 info8 .i64 .i64 _ _ 4 rfl rfl ?h1 ?h2 ?h3 ?_)
  case h1 => simp
  case h2 => simp
  case h3 => omega
  intro w1 hown hg
  have hb1 : Below w.heap.size w w1 := below_undrewN ((Below.refl w.heap.size (w.drewN nq)).grown hg (Nat.le_refl _) (by simp))
  have ho1 : w1.ownsRow w.heap.size 5 1 (.slice (some ⟨w.heap.size, 0, none⟩) 4 4) (andTo (xs.drop 12) ms 0).length (cb (andTo (xs.drop 12) ms 0)) := by
    rw [andTo_zero, HX.out]; simpa using hown
  clear hown hg
  go_wp2
  go_loopw [7] (fun i wr => ∃ k : Nat, k ≤ 4 ∧ i = .int .i64 k ∧ wr.ownsRow w.heap.size 5 1 (.slice (some ⟨w.heap.size, 0, none⟩) 4 4) (andTo (xs.drop 12) ms k).length (cb (andTo (xs.drop 12) ms k)) ∧ Below w.heap.size w wr) (fun i _ => 4 - (intOf i).toNat)
  case atStart => exact ⟨0, Nat.zero_le _, rfl, ho1, hb1⟩
  case round =>
    obtain ⟨k, hk, rfl, ho, hb⟩ := hrel
    by_cases hlt : k < 4
    · have l1 : k < ((xs.drop 12)).length := by rw [HX.out]; exact hlt
      have l2 : k < (ms).length := by rw [HM.out]; exact hlt
      obtain ⟨b1, o1, e1, _, q1⟩ := (ha.below hb).at_ l1
      obtain ⟨b2, o2, e2, _, q2⟩ := (hm.below hb).at_ l2
      subst_eqs
      have g1 := q1 k l1
      have g2 := q2 k l2
      clear q1 q2
      have hlen := andTo_length (xs.drop 12) ms k (by rw [HX.out, HM.out]; exact Nat.le_refl _) (by omega)
      rw [HX.out] at hlen
      have c0 := own_cell ho (j := k) (by omega) hlen
      have f0 := own_frozen ho k hlen
      generalize (andTo (xs.drop 12) ms k)[k] = y at c0
      have HS := Lib.hid (andTo_step (xs.drop 12) ms k l1 l2)
      have HL := Lib.hid hlen
      clear hlen
      generalize ((xs.drop 12))[k] = x at g1 HS
      generalize (ms)[k] = z at g2 HS
      have hand := Lib.hid (and_u8 x z)
      go_wp2
      go_region
      all_goals
        go_wp2
        go_roundw
        case rel =>
          have R := own_store ho (j := k) (x &&& z) HL.out
          rw [HS.out] at R
          rw [hand.out]
          exact ⟨k + 1, by omega, by go_num, R, (hb.setCell (p := ⟨w.heap.size, k, none⟩) (Nat.le_refl _) _).drew⟩
        case measure => simp [intOf]; omega
    · have e1 : andTo (xs.drop 12) ms k = andL (xs.drop 12) ms := andTo_all _ _ _ (by rw [HX.out, HM.out]; exact Nat.le_refl _) (by rw [HX.out]; omega)
      rw [e1] at ho
      clear e1
      go_wp2
      go_ret
      exact BackOpt.some_ HT.out (by rw [andL_length _ _ (by rw [HX.out, HM.out]; exact Nat.le_refl _), HX.out]) (Nat.le_refl _) (Rd.of_own ho) hb

set_option maxHeartbeats 1000000 in
theorem netMask_64n (A M : Option Addr) (c d : Nat) (xs ms : List UInt8) (w : World) (hv : V4 w) (hx : xs.length = 16) (hms : ms.length = 4) (hf : xs.take 12 ≠ mp) (ha0 : Rd w A xs) (hm : Rd w M ms) (hc : 16 ≤ c) :
    Calls Tryd.prog 38 #[.slice A 16 c, .slice M 4 d] w fun e w' => BackOpt w (maskL xs ms) e w' := by
  have HT := Lib.hid (maskL_64n hx hms hf)
  have HF := Lib.hid (eqb_false hf)
  have H12 := Lib.hid (show (xs.take 12).length = 12 by simp [hx])
  obtain ⟨mb, mo, rfl, _⟩ := ha0.at_ (k := 0) (by omega)
  have ha12 := ha0.cut0 12
  obtain ⟨vb, vo, vc, hcell, hvc, hvlt, hrd⟩ := hv
  have hc1 : (12 : Int) ≤ (c : Int) := by omega
  have hc2 : (16 : Int) ≤ (c : Int) := by omega
  clear hx hms hf
  go_enter Tryd.func38, Tryd.ntmps38
  go_wp2
  go_quiet ((go_at_call 57; refine Calls.quiet_of_same (beqEq_any _ _ _ _ _ _ (xs.take 12) mp _ H12.out rfl (by exact ha12) (by exact hrd) false HF.out)))
  go_wp2
  go_ret
  exact BackOpt.none_ HT.out (below_drewN (Below.refl _ _) _)

set_option maxHeartbeats 1000000 in
theorem netMask_other (A M : Option Addr) (n m c d : Nat) (xs ms : List UInt8) (w : World) (hx : xs.length = n) (hms : ms.length = m) (hne : n ≠ m) (h1 : ¬ (n = 4 ∧ m = 16)) (h2 : ¬ (n = 16 ∧ m = 4)) :
    Calls Tryd.prog 38 #[.slice A n c, .slice M m d] w fun e w' => BackOpt w (maskL xs ms) e w' := by
  have HT := Lib.hid (maskL_other (xs := xs) (ms := ms) (by omega) (by omega) (by omega))
  have t0 : ((n : Int) != (m : Int)) = true := by simp; omega
  clear hx hms
  by_cases m16 : m = 16
  · subst m16
    have t1 : ((n : Int) == 4) = false := by simp; omega
    clear hne h1 h2
    go_enter Tryd.func38, Tryd.ntmps38
    go_wp2
    go_quiet (fail)
    go_wp2
    go_ret
    exact BackOpt.none_ HT.out (below_drewN (Below.refl _ _) _)
  · have t1 : ((m : Int) == 16) = false := by simp; omega
    by_cases m4 : m = 4
    · subst m4
      have t2 : ((n : Int) == 16) = false := by simp; omega
      clear hne h1 h2 m16
      go_enter Tryd.func38, Tryd.ntmps38
      go_wp2
      go_quiet (fail)
      go_wp2
      go_ret
      exact BackOpt.none_ HT.out (below_drewN (Below.refl _ _) _)
    · have t2 : ((m : Int) == 4) = false := by simp; omega
      clear hne h1 h2 m16 m4
      go_enter Tryd.func38, Tryd.ntmps38
      go_wp2
      go_quiet (fail)
      go_wp2
      go_ret
      exact BackOpt.none_ HT.out (below_drewN (Below.refl _ _) _)

theorem netMask_any (A M : Option Addr) (n m c d : Nat) (xs ms : List UInt8) (w : World) (hv : V4 w) (hx : xs.length = n) (hms : ms.length = m) (hc : n ≤ c) (hd : m ≤ d) (ha : Rd w A xs) (hm : Rd w M ms) (hs : n ≤ 140737488351232) :
    Calls Tryd.prog 38 #[.slice A n c, .slice M m d] w fun e w' => BackOpt w (maskL xs ms) e w' := by
  by_cases h0 : n = m
  · subst h0
    exact netMask_same A M n c d xs ms w hx hms ha hm hs (by rw [Bool.and_eq_false_iff]; simp; omega) (by rw [Bool.and_eq_false_iff]; simp; omega) _ rfl _ rfl (by rw [Bool.and_eq_false_iff]; simp; omega)
  · by_cases h1 : n = 4 ∧ m = 16
    · obtain ⟨rfl, rfl⟩ := h1
      by_cases hf : ms.take 12 = ff12
      · exact netMask_46 A M c d xs ms w hx hms hf ha hm hd
      · exact netMask_46n A M c d xs ms w hx hms hf ha hm hd
    · by_cases h2 : n = 16 ∧ m = 4
      · obtain ⟨rfl, rfl⟩ := h2
        by_cases hf : xs.take 12 = mp
        · exact netMask_64 A M c d xs ms w hv hx hms hf ha hm hc
        · exact netMask_64n A M c d xs ms w hv hx hms hf ha hm hc
      · exact netMask_other A M n m c d xs ms w hx hms h0 h1 h2

set_option maxHeartbeats 400000 in
theorem implMask_any (A M : Option Addr) (n m c d : Nat) (xs ms : List UInt8) (w : World) (hv : V4 w) (hx : xs.length = n) (hms : ms.length = m) (ha : Rd w A xs) (hm : Rd w M ms) (hs : n ≤ 140737488351232) (hs2 : m ≤ 140737488351232) :
    Calls Tryd.prog 21 #[.slice A n c, .slice M m d] w fun e w' => OwnOpt 5 w (maskL xs ms) e w' := by
  have HX := Lib.hid hx
  have HM := Lib.hid hms
  have hle := maskL_le xs ms
  have hle2 : ((maskL xs ms).getD []).length ≤ 140737488351232 := by omega
  clear hx hms hle
  have hneq := fun (w : World) (a : Option Addr) (n c : Nat) => run_neq_slice_nil_any (P := Tryd.prog) w 46 5 a n c 0 0 Tryd.underlying46
  go_enter Tryd.func21, Tryd.ntmps21
  go_wp2_with fail
  refine (plain_any _ _ _ xs _ HX.out (by exact ha) (by omega)).mono ?_
  rintro e w1 ⟨A1, n1, c1, rfl, hn1, hown1, hb1⟩
  have HN1 := Lib.hid hn1
  have hl1 : n1 ≤ 140737488351232 := by have := HX.out; omega
  clear hn1
  go_wp2_with fail
  refine (plain_any _ _ _ ms _ HM.out (by exact hm.below hb1) (by omega)).mono ?_
  rintro e w2 ⟨A2, n2, c2, rfl, hn2, hown2, hb2⟩
  have HN2 := Lib.hid hn2
  clear hn2
  have hb12 := hb1.trans (hb2.mono hb1.size)
  go_wp2_with fail
  refine (netMask_any _ _ _ _ _ _ xs ms _ (by exact hv.below hb12) HN1.out HN2.out (by exact own_cap hown1) (by exact own_cap hown2) (by exact (Rd.of_own hown1).below hb2) (by exact Rd.of_own hown2) hl1).mono ?_
  rintro e w3 ⟨A3, n3, c3, rfl, hn3, hc3, hr3, hnil3, hb3⟩
  have HN3 := Lib.hid hn3
  have hl3 : n3 ≤ 140737488351232 := by omega
  have HNIL := Lib.hid hnil3
  clear hn3 hnil3
  have hb13 := hb12.trans (hb3.mono hb12.size)
  go_wp2_with fail
  refine (plain_any _ _ _ ((maskL xs ms).getD []) _ HN3.out (by exact hr3) (by omega)).mono ?_
  rintro e w4 ⟨A4, n4, c4, rfl, hn4, hown4, hb4⟩
  have HN4 := Lib.hid hn4
  clear hn4
  go_wp2
  go_ret2
  exact ⟨A4, n4, c4, tup2 HNIL.out, HN4.out, own_mono hown4 hb13.size, hb13.trans (hb4.mono hb13.size)⟩
end Go.Proofs.YtjepkkfpgmgnjaaDoor
