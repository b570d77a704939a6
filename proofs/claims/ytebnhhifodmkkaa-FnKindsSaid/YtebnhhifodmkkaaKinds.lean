/-
  Contracts of (net.IP).IsPrivate, IsMulticast, IsLinkLocalUnicast and of impl's functions of these names, for addresses (4 or 16 bytes). No other condition.
-/
import Derived.Test.YtebnhhifodmkkaaTo4
namespace Go.Proofs.Ytebnhhifodmkkaa
open Go.RowKit

def mc4 (y0 _y1 : UInt8) : Bool := y0 &&& 240 == 224
def mc6 (x0 _x1 : UInt8) : Bool := x0 == 255
def pr4 (y0 y1 : UInt8) : Bool := y0 == 10 || (y0 == 172 && y1 &&& 240 == 16) || (y0 == 192 && y1 == 168)
def pr6 (x0 _x1 : UInt8) : Bool := x0 &&& 254 == 252
def ll4 (y0 y1 : UInt8) : Bool := y0 == 169 && y1 == 254
def ll6 (x0 x1 : UInt8) : Bool := x0 == 254 && x1 &&& 192 == 128
/-- a property of an address: by its IPv4 form, if it has one, else by its own bytes -/
def kindOf (f4 f6 : UInt8 → UInt8 → Bool) (xs : List UInt8) : Bool :=
  match to4 xs with
  | some ys => f4 (ys.getD 0 0) (ys.getD 1 0)
  | none => f6 (xs.getD 0 0) (xs.getD 1 0)
theorem kindOf_some {f4 f6 : UInt8 → UInt8 → Bool} {xs : List UInt8} {y0 y1 y2 y3 : UInt8} (h : to4 xs = some [y0, y1, y2, y3]) : kindOf f4 f6 xs = f4 y0 y1 := by simp [kindOf, h]
theorem kindOf_none {f4 f6 : UInt8 → UInt8 → Bool} {xs : List UInt8} (h : to4 xs = none) (hl : 1 < xs.length) : kindOf f4 f6 xs = f6 xs[0] xs[1] := by
  have h0 : 0 < xs.length := by omega
  simp [kindOf, h, hl, h0]

theorem to4_len {xs ys : List UInt8} (h : to4 xs = some ys) : ys.length = 4 := by
  unfold to4 at h
  split at h
  · simp only [Option.some.injEq] at h; subst h; assumption
  · split at h
    · rename_i h2; simp only [Option.some.injEq] at h; subst h; simp [h2.1]
    · cases h

/-- the walk's spelling of a masked byte held against a number -/
theorem and_eq (y : UInt8) (m r : UInt8) : (bits .and .u8 (y.toNat : Int) (m.toNat : Int) == (r.toNat : Int)) = (y &&& m == r) := by
  rw [u8_and_nat _ _ y.toNat_lt m.toNat_lt, Bool.eq_iff_iff]
  simp only [beq_iff_eq, Int.ofNat_inj]
  rw [← UInt8.toNat_inj, UInt8.toNat_and]

set_option maxHeartbeats 400000 in
theorem netMc_some (A : Option Addr) (n c : Nat) (xs : List UInt8) (y0 y1 y2 y3 : UInt8) (w : World) (hn : xs.length = n) (hc : n ≤ c) (ha : Rd w A xs) (ht : to4 xs = some [y0, y1, y2, y3]) :
    Calls Try.prog 37 #[.slice A n c] w fun e w' => e = .returned (.bool (mc4 y0 y1)) ∧ w' = w := by
  have HN := Lib.hid hn
  have HT := Lib.hid ht
  have hneq := fun (w : World) (a : Option Addr) (n c : Nat) => run_neq_slice_nil_any (P := Try.prog) w 47 5 a n c 0 0 Try.underlying47
  clear hn ht
  have t1 : (bits .and .u8 (y0.toNat : Int) 240 == 224) = (y0 &&& 240 == 224) := and_eq y0 240 224
  go_enter Try.func37, Try.ntmps37
  go_wp2_with fail
  refine (netTo4_any _ _ _ xs _ HN.out hc (by exact ha)).mono ?_
  rintro e w2 ⟨A2, n2, c2, rfl, hn2, hc2, hr2, hnil2, rfl⟩
  rw [HT.out] at hn2 hr2
  obtain rfl : n2 = 4 := hn2.symm
  obtain ⟨b, off, rfl, _, hcell⟩ := hr2.at_ (k := 0) (by simp)
  have c0 : w.cell? ⟨b, off, none⟩ = some (.int .u8 (y0.toNat : Int)) := hcell 0 (by simp)
  have c1 : w.cell? ⟨b, off + 1, none⟩ = some (.int .u8 (y1.toNat : Int)) := hcell 1 (by simp)
  clear hcell hn2 hnil2
  go_wp2
  go_ret
  exact ⟨ret_bool (by unfold mc4; first | exact t1 | rfl), rfl⟩

set_option maxHeartbeats 400000 in
theorem netLl_some (A : Option Addr) (n c : Nat) (xs : List UInt8) (y0 y1 y2 y3 : UInt8) (w : World) (hn : xs.length = n) (hc : n ≤ c) (ha : Rd w A xs) (ht : to4 xs = some [y0, y1, y2, y3]) :
    Calls Try.prog 38 #[.slice A n c] w fun e w' => e = .returned (.bool (ll4 y0 y1)) ∧ w' = w := by
  have HN := Lib.hid hn
  have HT := Lib.hid ht
  have hneq := fun (w : World) (a : Option Addr) (n c : Nat) => run_neq_slice_nil_any (P := Try.prog) w 47 5 a n c 0 0 Try.underlying47
  clear hn ht
  by_cases h0 : y0 = 169
  · by_cases h1 : y1 = 254
    · have th0 : ((y0.toNat : Int) == 169) = true := u8eq (y := 169) h0
      have th1 : ((y1.toNat : Int) == 254) = true := u8eq (y := 254) h1
      go_enter Try.func38, Try.ntmps38
      go_wp2_with fail
      refine (netTo4_any _ _ _ xs _ HN.out hc (by exact ha)).mono ?_
      rintro e w2 ⟨A2, n2, c2, rfl, hn2, hc2, hr2, hnil2, rfl⟩
      rw [HT.out] at hn2 hr2
      obtain rfl : n2 = 4 := hn2.symm
      obtain ⟨b, off, rfl, _, hcell⟩ := hr2.at_ (k := 0) (by simp)
      have c0 : w.cell? ⟨b, off, none⟩ = some (.int .u8 (y0.toNat : Int)) := hcell 0 (by simp)
      have c1 : w.cell? ⟨b, off + 1, none⟩ = some (.int .u8 (y1.toNat : Int)) := hcell 1 (by simp)
      clear hcell hn2 hnil2
      go_wp2
      go_ret
      exact ⟨ret_bool (by simp [ll4, h0, h1]), rfl⟩
    · have th0 : ((y0.toNat : Int) == 169) = true := u8eq (y := 169) h0
      have th1 : ((y1.toNat : Int) == 254) = false := u8ne (y := 254) h1
      go_enter Try.func38, Try.ntmps38
      go_wp2_with fail
      refine (netTo4_any _ _ _ xs _ HN.out hc (by exact ha)).mono ?_
      rintro e w2 ⟨A2, n2, c2, rfl, hn2, hc2, hr2, hnil2, rfl⟩
      rw [HT.out] at hn2 hr2
      obtain rfl : n2 = 4 := hn2.symm
      obtain ⟨b, off, rfl, _, hcell⟩ := hr2.at_ (k := 0) (by simp)
      have c0 : w.cell? ⟨b, off, none⟩ = some (.int .u8 (y0.toNat : Int)) := hcell 0 (by simp)
      have c1 : w.cell? ⟨b, off + 1, none⟩ = some (.int .u8 (y1.toNat : Int)) := hcell 1 (by simp)
      clear hcell hn2 hnil2
      go_wp2
      go_ret
      exact ⟨ret_bool (by simp [ll4, h1]), rfl⟩
  · have th0 : ((y0.toNat : Int) == 169) = false := u8ne (y := 169) h0
    go_enter Try.func38, Try.ntmps38
    go_wp2_with fail
    refine (netTo4_any _ _ _ xs _ HN.out hc (by exact ha)).mono ?_
    rintro e w2 ⟨A2, n2, c2, rfl, hn2, hc2, hr2, hnil2, rfl⟩
    rw [HT.out] at hn2 hr2
    obtain rfl : n2 = 4 := hn2.symm
    obtain ⟨b, off, rfl, _, hcell⟩ := hr2.at_ (k := 0) (by simp)
    have c0 : w.cell? ⟨b, off, none⟩ = some (.int .u8 (y0.toNat : Int)) := hcell 0 (by simp)
    have c1 : w.cell? ⟨b, off + 1, none⟩ = some (.int .u8 (y1.toNat : Int)) := hcell 1 (by simp)
    clear hcell hn2 hnil2
    go_wp2
    go_ret
    exact ⟨ret_bool (by simp [ll4, h0]), rfl⟩

set_option maxHeartbeats 400000 in
theorem netPr_some (A : Option Addr) (n c : Nat) (xs : List UInt8) (y0 y1 y2 y3 : UInt8) (w : World) (hn : xs.length = n) (hc : n ≤ c) (ha : Rd w A xs) (ht : to4 xs = some [y0, y1, y2, y3]) :
    Calls Try.prog 36 #[.slice A n c] w fun e w' => e = .returned (.bool (pr4 y0 y1)) ∧ w' = w := by
  have HN := Lib.hid hn
  have HT := Lib.hid ht
  have hneq := fun (w : World) (a : Option Addr) (n c : Nat) => run_neq_slice_nil_any (P := Try.prog) w 47 5 a n c 0 0 Try.underlying47
  clear hn ht
  by_cases h10 : y0 = 10
  · have th10 : ((y0.toNat : Int) == 10) = true := u8eq (y := 10) h10
    go_enter Try.func36, Try.ntmps36
    go_wp2_with fail
    refine (netTo4_any _ _ _ xs _ HN.out hc (by exact ha)).mono ?_
    rintro e w2 ⟨A2, n2, c2, rfl, hn2, hc2, hr2, hnil2, rfl⟩
    rw [HT.out] at hn2 hr2
    obtain rfl : n2 = 4 := hn2.symm
    obtain ⟨b, off, rfl, _, hcell⟩ := hr2.at_ (k := 0) (by simp)
    have c0 : w.cell? ⟨b, off, none⟩ = some (.int .u8 (y0.toNat : Int)) := hcell 0 (by simp)
    have c1 : w.cell? ⟨b, off + 1, none⟩ = some (.int .u8 (y1.toNat : Int)) := hcell 1 (by simp)
    clear hcell hn2 hnil2
    go_wp2
    go_ret
    exact ⟨ret_bool (by simp [pr4, h10]), rfl⟩
  · by_cases h172 : y0 = 172
    · by_cases ha1 : y1 &&& 240 = 16
      · have th10 : ((y0.toNat : Int) == 10) = false := u8ne (y := 10) h10
        have th172 : ((y0.toNat : Int) == 172) = true := u8eq (y := 172) h172
        have ta : (bits .and .u8 (y1.toNat : Int) 240 == 16) = true := (and_eq y1 240 16).trans (by simpa using ha1)
        go_enter Try.func36, Try.ntmps36
        go_wp2_with fail
        refine (netTo4_any _ _ _ xs _ HN.out hc (by exact ha)).mono ?_
        rintro e w2 ⟨A2, n2, c2, rfl, hn2, hc2, hr2, hnil2, rfl⟩
        rw [HT.out] at hn2 hr2
        obtain rfl : n2 = 4 := hn2.symm
        obtain ⟨b, off, rfl, _, hcell⟩ := hr2.at_ (k := 0) (by simp)
        have c0 : w.cell? ⟨b, off, none⟩ = some (.int .u8 (y0.toNat : Int)) := hcell 0 (by simp)
        have c1 : w.cell? ⟨b, off + 1, none⟩ = some (.int .u8 (y1.toNat : Int)) := hcell 1 (by simp)
        clear hcell hn2 hnil2
        go_wp2
        go_ret
        exact ⟨ret_bool (by simp [pr4, h172, ha1]), rfl⟩
      · have th10 : ((y0.toNat : Int) == 10) = false := u8ne (y := 10) h10
        have th172 : ((y0.toNat : Int) == 172) = true := u8eq (y := 172) h172
        have ta : (bits .and .u8 (y1.toNat : Int) 240 == 16) = false := (and_eq y1 240 16).trans (by simpa using ha1)
        have t192 : ((y0.toNat : Int) == 192) = false := by rw [h172]; rfl
        go_enter Try.func36, Try.ntmps36
        go_wp2_with fail
        refine (netTo4_any _ _ _ xs _ HN.out hc (by exact ha)).mono ?_
        rintro e w2 ⟨A2, n2, c2, rfl, hn2, hc2, hr2, hnil2, rfl⟩
        rw [HT.out] at hn2 hr2
        obtain rfl : n2 = 4 := hn2.symm
        obtain ⟨b, off, rfl, _, hcell⟩ := hr2.at_ (k := 0) (by simp)
        have c0 : w.cell? ⟨b, off, none⟩ = some (.int .u8 (y0.toNat : Int)) := hcell 0 (by simp)
        have c1 : w.cell? ⟨b, off + 1, none⟩ = some (.int .u8 (y1.toNat : Int)) := hcell 1 (by simp)
        clear hcell hn2 hnil2
        go_wp2
        go_ret
        exact ⟨ret_bool (by simp [pr4, h172, ha1]), rfl⟩
    · by_cases h192 : y0 = 192
      · by_cases h168 : y1 = 168
        · have th10 : ((y0.toNat : Int) == 10) = false := u8ne (y := 10) h10
          have th172 : ((y0.toNat : Int) == 172) = false := u8ne (y := 172) h172
          have th192 : ((y0.toNat : Int) == 192) = true := u8eq (y := 192) h192
          have th168 : ((y1.toNat : Int) == 168) = true := u8eq (y := 168) h168
          go_enter Try.func36, Try.ntmps36
          go_wp2_with fail
          refine (netTo4_any _ _ _ xs _ HN.out hc (by exact ha)).mono ?_
          rintro e w2 ⟨A2, n2, c2, rfl, hn2, hc2, hr2, hnil2, rfl⟩
          rw [HT.out] at hn2 hr2
          obtain rfl : n2 = 4 := hn2.symm
          obtain ⟨b, off, rfl, _, hcell⟩ := hr2.at_ (k := 0) (by simp)
          have c0 : w.cell? ⟨b, off, none⟩ = some (.int .u8 (y0.toNat : Int)) := hcell 0 (by simp)
          have c1 : w.cell? ⟨b, off + 1, none⟩ = some (.int .u8 (y1.toNat : Int)) := hcell 1 (by simp)
          clear hcell hn2 hnil2
          go_wp2
          go_ret
          exact ⟨ret_bool (by simp [pr4, h192, h168]), rfl⟩
        · have th10 : ((y0.toNat : Int) == 10) = false := u8ne (y := 10) h10
          have th172 : ((y0.toNat : Int) == 172) = false := u8ne (y := 172) h172
          have th192 : ((y0.toNat : Int) == 192) = true := u8eq (y := 192) h192
          have th168 : ((y1.toNat : Int) == 168) = false := u8ne (y := 168) h168
          go_enter Try.func36, Try.ntmps36
          go_wp2_with fail
          refine (netTo4_any _ _ _ xs _ HN.out hc (by exact ha)).mono ?_
          rintro e w2 ⟨A2, n2, c2, rfl, hn2, hc2, hr2, hnil2, rfl⟩
          rw [HT.out] at hn2 hr2
          obtain rfl : n2 = 4 := hn2.symm
          obtain ⟨b, off, rfl, _, hcell⟩ := hr2.at_ (k := 0) (by simp)
          have c0 : w.cell? ⟨b, off, none⟩ = some (.int .u8 (y0.toNat : Int)) := hcell 0 (by simp)
          have c1 : w.cell? ⟨b, off + 1, none⟩ = some (.int .u8 (y1.toNat : Int)) := hcell 1 (by simp)
          clear hcell hn2 hnil2
          go_wp2
          go_ret
          exact ⟨ret_bool (by simp [pr4, h192, h168]), rfl⟩
      · have th10 : ((y0.toNat : Int) == 10) = false := u8ne (y := 10) h10
        have th172 : ((y0.toNat : Int) == 172) = false := u8ne (y := 172) h172
        have th192 : ((y0.toNat : Int) == 192) = false := u8ne (y := 192) h192
        go_enter Try.func36, Try.ntmps36
        go_wp2_with fail
        refine (netTo4_any _ _ _ xs _ HN.out hc (by exact ha)).mono ?_
        rintro e w2 ⟨A2, n2, c2, rfl, hn2, hc2, hr2, hnil2, rfl⟩
        rw [HT.out] at hn2 hr2
        obtain rfl : n2 = 4 := hn2.symm
        obtain ⟨b, off, rfl, _, hcell⟩ := hr2.at_ (k := 0) (by simp)
        have c0 : w.cell? ⟨b, off, none⟩ = some (.int .u8 (y0.toNat : Int)) := hcell 0 (by simp)
        have c1 : w.cell? ⟨b, off + 1, none⟩ = some (.int .u8 (y1.toNat : Int)) := hcell 1 (by simp)
        clear hcell hn2 hnil2
        go_wp2
        go_ret
        exact ⟨ret_bool (by simp [pr4, h10, h172, h192]), rfl⟩

set_option maxHeartbeats 400000 in
theorem netMc_none (A : Option Addr) (c : Nat) (xs : List UInt8) (w : World) (hn : xs.length = 16) (hc : 16 ≤ c) (ha : Rd w A xs) (ht : to4 xs = none) (x0 x1 : UInt8) (hx0 : x0 = xs[0]) (hx1 : x1 = xs[1]) :
    Calls Try.prog 37 #[.slice A 16 c] w fun e w' => e = .returned (.bool (mc6 x0 x1)) ∧ w' = w := by
  obtain ⟨b, off, rfl, _, hcell⟩ := ha.at_ (k := 0) (by omega)
  have c0 : w.cell? ⟨b, off, none⟩ = some (.int .u8 (x0.toNat : Int)) := by rw [hx0]; exact hcell 0 (by omega)
  have c1 : w.cell? ⟨b, off + 1, none⟩ = some (.int .u8 (x1.toNat : Int)) := by rw [hx1]; exact hcell 1 (by omega)
  have HN := Lib.hid hn
  have HT := Lib.hid ht
  have hneq := fun (w : World) (a : Option Addr) (n c : Nat) => run_neq_slice_nil_any (P := Try.prog) w 47 5 a n c 0 0 Try.underlying47
  clear hx0 hx1 hcell hn ht
  by_cases h0 : x0 = 255
  · have th0 : ((x0.toNat : Int) == 255) = true := u8eq (y := 255) h0
    go_enter Try.func37, Try.ntmps37
    go_wp2_with fail
    refine (netTo4_any _ _ _ xs _ HN.out hc (by exact ha)).mono ?_
    rintro e w2 ⟨A2, n2, c2, rfl, hn2, hc2, hr2, hnil2, rfl⟩
    rw [HT.out] at hn2 hr2 hnil2
    obtain rfl : A2 = none := by simpa using hnil2
    clear hn2 hnil2
    go_wp2
    go_ret
    exact ⟨ret_bool (by simp [mc6, h0]), rfl⟩
  · have th0 : ((x0.toNat : Int) == 255) = false := u8ne (y := 255) h0
    go_enter Try.func37, Try.ntmps37
    go_wp2_with fail
    refine (netTo4_any _ _ _ xs _ HN.out hc (by exact ha)).mono ?_
    rintro e w2 ⟨A2, n2, c2, rfl, hn2, hc2, hr2, hnil2, rfl⟩
    rw [HT.out] at hn2 hr2 hnil2
    obtain rfl : A2 = none := by simpa using hnil2
    clear hn2 hnil2
    go_wp2
    go_ret
    exact ⟨ret_bool (by simp [mc6, h0]), rfl⟩

set_option maxHeartbeats 400000 in
theorem netPr_none (A : Option Addr) (c : Nat) (xs : List UInt8) (w : World) (hn : xs.length = 16) (hc : 16 ≤ c) (ha : Rd w A xs) (ht : to4 xs = none) (x0 x1 : UInt8) (hx0 : x0 = xs[0]) (hx1 : x1 = xs[1]) :
    Calls Try.prog 36 #[.slice A 16 c] w fun e w' => e = .returned (.bool (pr6 x0 x1)) ∧ w' = w := by
  obtain ⟨b, off, rfl, _, hcell⟩ := ha.at_ (k := 0) (by omega)
  have c0 : w.cell? ⟨b, off, none⟩ = some (.int .u8 (x0.toNat : Int)) := by rw [hx0]; exact hcell 0 (by omega)
  have c1 : w.cell? ⟨b, off + 1, none⟩ = some (.int .u8 (x1.toNat : Int)) := by rw [hx1]; exact hcell 1 (by omega)
  have HN := Lib.hid hn
  have HT := Lib.hid ht
  have hneq := fun (w : World) (a : Option Addr) (n c : Nat) => run_neq_slice_nil_any (P := Try.prog) w 47 5 a n c 0 0 Try.underlying47
  clear hx0 hx1 hcell hn ht
  by_cases h0 : x0 &&& 254 = 252
  · have ta : (bits .and .u8 (x0.toNat : Int) 254 == 252) = true := (and_eq x0 254 252).trans (by simpa using h0)
    go_enter Try.func36, Try.ntmps36
    go_wp2_with fail
    refine (netTo4_any _ _ _ xs _ HN.out hc (by exact ha)).mono ?_
    rintro e w2 ⟨A2, n2, c2, rfl, hn2, hc2, hr2, hnil2, rfl⟩
    rw [HT.out] at hn2 hr2 hnil2
    obtain rfl : A2 = none := by simpa using hnil2
    clear hn2 hnil2
    go_wp2
    go_ret
    exact ⟨ret_bool (by simp [pr6, h0]), rfl⟩
  · have ta : (bits .and .u8 (x0.toNat : Int) 254 == 252) = false := (and_eq x0 254 252).trans (by simpa using h0)
    go_enter Try.func36, Try.ntmps36
    go_wp2_with fail
    refine (netTo4_any _ _ _ xs _ HN.out hc (by exact ha)).mono ?_
    rintro e w2 ⟨A2, n2, c2, rfl, hn2, hc2, hr2, hnil2, rfl⟩
    rw [HT.out] at hn2 hr2 hnil2
    obtain rfl : A2 = none := by simpa using hnil2
    clear hn2 hnil2
    go_wp2
    go_ret
    exact ⟨ret_bool (by simp [pr6, h0]), rfl⟩

set_option maxHeartbeats 400000 in
theorem netLl_none (A : Option Addr) (c : Nat) (xs : List UInt8) (w : World) (hn : xs.length = 16) (hc : 16 ≤ c) (ha : Rd w A xs) (ht : to4 xs = none) (x0 x1 : UInt8) (hx0 : x0 = xs[0]) (hx1 : x1 = xs[1]) :
    Calls Try.prog 38 #[.slice A 16 c] w fun e w' => e = .returned (.bool (ll6 x0 x1)) ∧ w' = w := by
  obtain ⟨b, off, rfl, _, hcell⟩ := ha.at_ (k := 0) (by omega)
  have c0 : w.cell? ⟨b, off, none⟩ = some (.int .u8 (x0.toNat : Int)) := by rw [hx0]; exact hcell 0 (by omega)
  have c1 : w.cell? ⟨b, off + 1, none⟩ = some (.int .u8 (x1.toNat : Int)) := by rw [hx1]; exact hcell 1 (by omega)
  have HN := Lib.hid hn
  have HT := Lib.hid ht
  have hneq := fun (w : World) (a : Option Addr) (n c : Nat) => run_neq_slice_nil_any (P := Try.prog) w 47 5 a n c 0 0 Try.underlying47
  clear hx0 hx1 hcell hn ht
  by_cases h0 : x0 = 254
  · by_cases h1 : x1 &&& 192 = 128
    · have th0 : ((x0.toNat : Int) == 254) = true := u8eq (y := 254) h0
      have ta : (bits .and .u8 (x1.toNat : Int) 192 == 128) = true := (and_eq x1 192 128).trans (by simpa using h1)
      go_enter Try.func38, Try.ntmps38
      go_wp2_with fail
      refine (netTo4_any _ _ _ xs _ HN.out hc (by exact ha)).mono ?_
      rintro e w2 ⟨A2, n2, c2, rfl, hn2, hc2, hr2, hnil2, rfl⟩
      rw [HT.out] at hn2 hr2 hnil2
      obtain rfl : A2 = none := by simpa using hnil2
      clear hn2 hnil2
      go_wp2
      go_ret
      exact ⟨ret_bool (by simp [ll6, h0, h1]), rfl⟩
    · have th0 : ((x0.toNat : Int) == 254) = true := u8eq (y := 254) h0
      have ta : (bits .and .u8 (x1.toNat : Int) 192 == 128) = false := (and_eq x1 192 128).trans (by simpa using h1)
      go_enter Try.func38, Try.ntmps38
      go_wp2_with fail
      refine (netTo4_any _ _ _ xs _ HN.out hc (by exact ha)).mono ?_
      rintro e w2 ⟨A2, n2, c2, rfl, hn2, hc2, hr2, hnil2, rfl⟩
      rw [HT.out] at hn2 hr2 hnil2
      obtain rfl : A2 = none := by simpa using hnil2
      clear hn2 hnil2
      go_wp2
      go_ret
      exact ⟨ret_bool (by simp [ll6, h1]), rfl⟩
  · have th0 : ((x0.toNat : Int) == 254) = false := u8ne (y := 254) h0
    go_enter Try.func38, Try.ntmps38
    go_wp2_with fail
    refine (netTo4_any _ _ _ xs _ HN.out hc (by exact ha)).mono ?_
    rintro e w2 ⟨A2, n2, c2, rfl, hn2, hc2, hr2, hnil2, rfl⟩
    rw [HT.out] at hn2 hr2 hnil2
    obtain rfl : A2 = none := by simpa using hnil2
    clear hn2 hnil2
    go_wp2
    go_ret
    exact ⟨ret_bool (by simp [ll6, h0]), rfl⟩

theorem netMc_any (A : Option Addr) (n c : Nat) (xs : List UInt8) (w : World) (hn : xs.length = n) (hc : n ≤ c) (ha : Rd w A xs) (hv : n = 4 ∨ n = 16) :
    Calls Try.prog 37 #[.slice A n c] w fun e w' => e = .returned (.bool (kindOf mc4 mc6 xs)) ∧ w' = w := by
  rcases ht : to4 xs with _ | ys
  · have h16 : n = 16 := by
      rcases hv with h | h
      · rw [to4_four (by omega)] at ht; cases ht
      · exact h
    subst h16
    rw [kindOf_none ht (by omega)]
    exact netMc_none A c xs w hn hc ha ht _ _ rfl rfl
  · have hl := to4_len ht
    match ys, hl with
    | [y0, y1, y2, y3], _ =>
      rw [kindOf_some ht]
      exact netMc_some A n c xs y0 y1 y2 y3 w hn hc ha ht

theorem implMc_any (A : Option Addr) (n c : Nat) (xs : List UInt8) (w : World) (hn : xs.length = n) (ha : Rd w A xs) (hv : n = 4 ∨ n = 16) (r : Bool) (hr : kindOf mc4 mc6 xs = r) :
    Calls Try.prog 22 #[.slice A n c] w fun e w' => e = .returned (.bool r) ∧ Below w.heap.size w w' := by
  have HN := Lib.hid hn
  have HV := Lib.hid hv
  have hle : n ≤ 16 := by omega
  subst hr
  clear hn hv
  go_enter Try.func22, Try.ntmps22
  go_wp2_with fail
  refine (plain_any _ _ _ xs _ HN.out (by exact ha) (by omega)).mono ?_
  rintro e w1 ⟨A1, n1, c1, rfl, hn1, hown1, hb1⟩
  obtain rfl : n1 = n := by rw [← hn1, HN.out]
  clear hn1
  go_wp2_with fail
  refine (netMc_any _ _ _ xs _ HN.out (by exact own_cap hown1) (by exact Rd.of_own hown1) HV.out).mono ?_
  rintro e w2 ⟨rfl, rfl⟩
  go_wp2
  go_ret
  exact ⟨rfl, hb1⟩

theorem netPr_any (A : Option Addr) (n c : Nat) (xs : List UInt8) (w : World) (hn : xs.length = n) (hc : n ≤ c) (ha : Rd w A xs) (hv : n = 4 ∨ n = 16) :
    Calls Try.prog 36 #[.slice A n c] w fun e w' => e = .returned (.bool (kindOf pr4 pr6 xs)) ∧ w' = w := by
  rcases ht : to4 xs with _ | ys
  · have h16 : n = 16 := by
      rcases hv with h | h
      · rw [to4_four (by omega)] at ht; cases ht
      · exact h
    subst h16
    rw [kindOf_none ht (by omega)]
    exact netPr_none A c xs w hn hc ha ht _ _ rfl rfl
  · have hl := to4_len ht
    match ys, hl with
    | [y0, y1, y2, y3], _ =>
      rw [kindOf_some ht]
      exact netPr_some A n c xs y0 y1 y2 y3 w hn hc ha ht

theorem implPr_any (A : Option Addr) (n c : Nat) (xs : List UInt8) (w : World) (hn : xs.length = n) (ha : Rd w A xs) (hv : n = 4 ∨ n = 16) (r : Bool) (hr : kindOf pr4 pr6 xs = r) :
    Calls Try.prog 21 #[.slice A n c] w fun e w' => e = .returned (.bool r) ∧ Below w.heap.size w w' := by
  have HN := Lib.hid hn
  have HV := Lib.hid hv
  have hle : n ≤ 16 := by omega
  subst hr
  clear hn hv
  go_enter Try.func21, Try.ntmps21
  go_wp2_with fail
  refine (plain_any _ _ _ xs _ HN.out (by exact ha) (by omega)).mono ?_
  rintro e w1 ⟨A1, n1, c1, rfl, hn1, hown1, hb1⟩
  obtain rfl : n1 = n := by rw [← hn1, HN.out]
  clear hn1
  go_wp2_with fail
  refine (netPr_any _ _ _ xs _ HN.out (by exact own_cap hown1) (by exact Rd.of_own hown1) HV.out).mono ?_
  rintro e w2 ⟨rfl, rfl⟩
  go_wp2
  go_ret
  exact ⟨rfl, hb1⟩

theorem netLl_any (A : Option Addr) (n c : Nat) (xs : List UInt8) (w : World) (hn : xs.length = n) (hc : n ≤ c) (ha : Rd w A xs) (hv : n = 4 ∨ n = 16) :
    Calls Try.prog 38 #[.slice A n c] w fun e w' => e = .returned (.bool (kindOf ll4 ll6 xs)) ∧ w' = w := by
  rcases ht : to4 xs with _ | ys
  · have h16 : n = 16 := by
      rcases hv with h | h
      · rw [to4_four (by omega)] at ht; cases ht
      · exact h
    subst h16
    rw [kindOf_none ht (by omega)]
    exact netLl_none A c xs w hn hc ha ht _ _ rfl rfl
  · have hl := to4_len ht
    match ys, hl with
    | [y0, y1, y2, y3], _ =>
      rw [kindOf_some ht]
      exact netLl_some A n c xs y0 y1 y2 y3 w hn hc ha ht

theorem implLl_any (A : Option Addr) (n c : Nat) (xs : List UInt8) (w : World) (hn : xs.length = n) (ha : Rd w A xs) (hv : n = 4 ∨ n = 16) (r : Bool) (hr : kindOf ll4 ll6 xs = r) :
    Calls Try.prog 23 #[.slice A n c] w fun e w' => e = .returned (.bool r) ∧ Below w.heap.size w w' := by
  have HN := Lib.hid hn
  have HV := Lib.hid hv
  have hle : n ≤ 16 := by omega
  subst hr
  clear hn hv
  go_enter Try.func23, Try.ntmps23
  go_wp2_with fail
  refine (plain_any _ _ _ xs _ HN.out (by exact ha) (by omega)).mono ?_
  rintro e w1 ⟨A1, n1, c1, rfl, hn1, hown1, hb1⟩
  obtain rfl : n1 = n := by rw [← hn1, HN.out]
  clear hn1
  go_wp2_with fail
  refine (netLl_any _ _ _ xs _ HN.out (by exact own_cap hown1) (by exact Rd.of_own hown1) HV.out).mono ?_
  rintro e w2 ⟨rfl, rfl⟩
  go_wp2
  go_ret
  exact ⟨rfl, hb1⟩
end Go.Proofs.Ytebnhhifodmkkaa
