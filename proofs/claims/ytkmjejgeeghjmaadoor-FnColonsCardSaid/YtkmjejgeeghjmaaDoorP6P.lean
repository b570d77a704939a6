/-
  Plain facts for the walk of netip.parseIPv6: what stands at the front of a text that is read. No condition.
-/
import Derived.Test.YtkmjejgeeghjmaaDoorV4P
namespace Go.Proofs.YtkmjejgeeghjmaaDoor
open Go.RowKit
set_option linter.unusedVariables false

/-- what comes behind a group's digits -/
def Next6 (dot : Bool) (ds : List Nat) (rest r acc : List UInt8) (ell : Option Nat) (out : List UInt8) : Prop :=
  (rest = [] ∧ Fin6 (acc ++ two (val ds)) ell out) ∨
  (∃ c r', rest = 58 :: c :: r' ∧ c ≠ 58 ∧ P6 dot (c :: r') (acc ++ two (val ds)) ell out) ∨
  (∃ c r', rest = 58 :: 58 :: c :: r' ∧ ell = none ∧ P6 dot (c :: r') (acc ++ two (val ds)) (some (acc.length + 2)) out) ∨
  (rest = [58, 58] ∧ ell = none ∧ Fin6 (acc ++ two (val ds)) (some (acc.length + 2)) out) ∨
  (∃ xs r', rest = 46 :: r' ∧ ell = none ∧ r = dot4 xs ∧ xs.length = 4 ∧ acc.length = 12 ∧ out = acc ++ xs)
theorem dec_nibs (n : Nat) (h : n < 256) : ∃ ds : List Nat, (∀ d ∈ ds, d < 16) ∧ 1 ≤ ds.length ∧ ds.length ≤ 4 ∧ dec n = ds.map dg := by
  unfold dec
  split
  · exact ⟨[n / 100, n / 10 % 10, n % 10], by simp; omega, by simp, by simp, rfl⟩
  · split
    · exact ⟨[n / 10 % 10, n % 10], by simp; omega, by simp, by simp, rfl⟩
    · exact ⟨[n % 10], by simp; omega, by simp, by simp, rfl⟩
theorem P6.shape {dot : Bool} {r acc out : List UInt8} {ell : Option Nat} (h : P6 dot r acc ell out) :
    ∃ ds rest, (∀ d ∈ ds, d < 16) ∧ 1 ≤ ds.length ∧ ds.length ≤ 4 ∧ r = ds.map dg ++ rest ∧ acc.length ≤ 14 ∧ Next6 dot ds rest r acc ell out := by
  cases h with
  | last hg ha hf =>
    obtain ⟨ds, h1, h2, h3, rfl, rfl⟩ := hg
    exact ⟨ds, [], h1, h2, h3, by simp, ha, .inl ⟨rfl, hf⟩⟩
  | @next t r' v _ _ _ hg ha hr hc hn =>
    obtain ⟨ds, h1, h2, h3, rfl, rfl⟩ := hg
    rcases r' with _ | ⟨c, r'⟩
    · exact absurd rfl hr
    · exact ⟨ds, 58 :: c :: r', h1, h2, h3, rfl, ha, .inr (.inl ⟨c, r', rfl, by simpa using hc, hn⟩)⟩
  | @gap t r' v _ _ hg ha hr hn =>
    obtain ⟨ds, h1, h2, h3, rfl, rfl⟩ := hg
    rcases r' with _ | ⟨c, r'⟩
    · exact absurd rfl hr
    · exact ⟨ds, 58 :: 58 :: c :: r', h1, h2, h3, rfl, ha, .inr (.inr (.inl ⟨c, r', rfl, rfl, hn⟩))⟩
  | stop hg ha hf =>
    obtain ⟨ds, h1, h2, h3, rfl, rfl⟩ := hg
    exact ⟨ds, [58, 58], h1, h2, h3, rfl, ha, .inr (.inr (.inr (.inl ⟨rfl, rfl, hf⟩)))⟩
  | @dots xs _ _ hd hx ha ho =>
    obtain ⟨ds, h1, h2, h3, h4⟩ := dec_nibs (xs.getD 0 0).toNat (xs.getD 0 0).toNat_lt
    exact ⟨ds, 46 :: (dec (xs.getD 1 0).toNat ++ 46 :: (dec (xs.getD 2 0).toNat ++ 46 :: dec (xs.getD 3 0).toNat)), h1, h2, h3, by rw [← h4]; rfl, by omega, .inr (.inr (.inr (.inr ⟨xs, _, rfl, rfl, rfl, hx, ha, ho⟩)))⟩
theorem Next6.front {dot : Bool} {ds : List Nat} {rest r acc out : List UInt8} {ell : Option Nat} (h : Next6 dot ds rest r acc ell out) : rest = [] ∨ ∃ c r', rest = c :: r' ∧ (c = 58 ∨ c = 46) := by
  rcases h with ⟨h, _⟩ | ⟨c, r', h, _⟩ | ⟨c, r', h, _⟩ | ⟨h, _⟩ | ⟨xs, r', h, _⟩
  · exact .inl h
  · exact .inr ⟨_, _, h, .inl rfl⟩
  · exact .inr ⟨_, _, h, .inl rfl⟩
  · exact .inr ⟨_, _, h, .inl rfl⟩
  · exact .inr ⟨_, _, h, .inr rfl⟩
theorem P6.front58 {dot : Bool} {r acc out : List UInt8} {ell : Option Nat} (h : P6 dot r acc ell out) : ∃ c r', r = c :: r' ∧ c ≠ 58 := by
  obtain ⟨ds, rest, h1, h2, _, rfl, _⟩ := h.shape
  rcases ds with _ | ⟨d, ds⟩
  · simp at h2
  · exact ⟨dg d, _, rfl, (dg_ne d (h1 d (by simp))).1⟩
/-- where '::' stood, as the code keeps it -/
def ellI : Option Nat → Int
  | none => -1
  | some e => (e : Int)
theorem dg_hex (d : Nat) (h : d < 16) : (d < 10 ∧ (dg d).toNat = 48 + d) ∨ (10 ≤ d ∧ (dg d).toNat = 87 + d) := by
  have : ∀ k : Fin 16, (k.val < 10 ∧ (dg k.val).toNat = 48 + k.val) ∨ (10 ≤ k.val ∧ (dg k.val).toNat = 87 + k.val) := by decide +kernel
  exact this ⟨d, h⟩
theorem val_take (ds : List Nat) (k : Nat) (h : k < ds.length) : val (ds.take (k + 1)) = val (ds.take k) * 16 + ds[k] := by
  rw [List.take_succ_eq_append_getElem h, val_snoc]
theorem val_take_lt (ds : List Nat) (k : Nat) (h : ∀ d ∈ ds, d < 16) (h4 : ds.length ≤ 4) : val (ds.take k) < 65536 := by
  have := val_lt (ds.take k) (fun d hd => h d (List.mem_of_mem_take hd))
  have h5 : 16 ^ (ds.take k).length ≤ 16 ^ 4 := Nat.pow_le_pow_right (by decide) (by simp; omega)
  omega
theorem u8_of (n : Nat) (h : n < 256) : ((UInt8.ofNat n).toNat : Int) = (n : Int) := by simp; omega
/-- two bytes of a group put behind the others -/
theorem putB_snoc2 (w : World) (B o : Nat) (acc : List UInt8) (v : Nat) (hv : v < 65536) : putB w B o (acc ++ two v) = ((putB w B o acc).setCell ⟨B, o + acc.length, none⟩ (.int .u8 ((v : Int) / 256))).setCell ⟨B, o + acc.length + 1, none⟩ (.int .u8 ((v : Int) % 256)) := by
  have e : acc ++ two v = (acc ++ [UInt8.ofNat (v / 256)]) ++ [UInt8.ofNat (v % 256)] := by simp [two]
  rw [e, putB_snoc, putB_snoc, u8_of _ (by omega), u8_of _ (by omega)]
  simp only [List.length_append, List.length_cons, List.length_nil, Nat.zero_add, Int.natCast_ediv, Int.natCast_emod, Int.cast_ofNat_Int, Nat.add_assoc]
theorem putB_cell2 {w : World} {base B n o : Nat} {e : TypeId} {xs : List UInt8} (h : w.ownsRow base e 1 (.slice (some ⟨B, 0, none⟩) n n) xs.length (cb xs)) (hn : xs.length = n) (l : List UInt8) (hl : o + l.length + 1 < n) :
    ∃ z, (putB w B o l).cell? ⟨B, o + l.length + 1, none⟩ = some z ∧ (putB w B o l).frozen? ⟨B, o + l.length + 1, none⟩ = false := by
  have own1 := putB_own (o := o) h hn l (by omega)
  have hl1 : (xs.take o ++ (l ++ xs.drop (o + l.length))).length = n := by simp; omega
  exact ⟨_, own_cell (j := o + l.length + 1) own1 (by rw [hl1]; omega) hl1, own_frozen own1 (o + l.length + 1) hl1⟩
theorem putB_append (w : World) (B o : Nat) (l m : List UInt8) : putB w B o (l ++ m) = putB (putB w B o l) B (o + l.length) m := by
  induction l generalizing w o with
  | nil => rfl
  | cons x l ih => rw [List.cons_append, putB, putB, ih, List.length_cons, show o + 1 + l.length = o + (l.length + 1) by omega]
theorem putB_append' (w : World) (B : Nat) (l m : List UInt8) : putB w B 0 (l ++ m) = putB (putB w B 0 l) B l.length m := by
  rw [putB_append, Nat.zero_add]
theorem putB_frozen (w : World) (B o : Nat) (l : List UInt8) (a : Addr) : (putB w B o l).frozen? a = w.frozen? a := by
  induction l generalizing w o with
  | nil => rfl
  | cons x l ih => rw [putB, ih]; simp
theorem cut_rest {r rest : List UInt8} {k : Nat} (h : r.drop k = rest) : (⟨r.toArray⟩ : ByteArray).extract k r.length = ⟨rest.toArray⟩ := by
  rw [ba_cut, List.take_length, h]
theorem cut_one {r : List UInt8} {x : UInt8} {t : List UInt8} (h : r = x :: t) : (⟨r.toArray⟩ : ByteArray).extract 1 r.length = ⟨t.toArray⟩ := by
  rw [ba_cut, List.take_length, h]; rfl
/-- the bytes behind a place moved to the end -/
def shf (b : List UInt8) (n m : Nat) : List UInt8 := (b ++ List.replicate n 0).take (m + n) ++ b.drop m
theorem shf_len {b : List UInt8} {n m : Nat} (h : n + b.length = 16) (hm : m ≤ b.length) : (shf b n m).length = 16 := by simp [shf]; omega
theorem shf_top (b : List UInt8) (n : Nat) : shf b n b.length = b ++ List.replicate n 0 := by
  unfold shf
  rw [List.drop_length, List.append_nil, List.take_of_length_le (by simp)]
theorem shf_get {b : List UInt8} {n m : Nat} (h : n + b.length = 16) (hm : m < b.length) (hl : m < (shf b n (m + 1)).length) : (shf b n (m + 1))[m] = b[m] := by
  have h1 : (shf b n (m + 1))[m]? = some b[m] := by
    unfold shf
    rw [List.getElem?_append_left (by simp; omega), List.getElem?_take_of_lt (by omega), List.getElem?_append_left hm, List.getElem?_eq_getElem hm]
  rw [List.getElem?_eq_getElem hl] at h1
  exact Option.some.inj h1
theorem shf_step {b : List UInt8} {n m : Nat} (h : n + b.length = 16) (hm : m < b.length) : (shf b n (m + 1)).set (m + n) b[m] = shf b n m := by
  unfold shf
  have e1 : (b ++ List.replicate n 0).take (m + 1 + n) = (b ++ List.replicate n 0).take (m + n) ++ [(b ++ List.replicate n 0)[m + n]'(by simp; omega)] := by
    rw [show m + 1 + n = (m + n) + 1 by omega, List.take_succ_eq_append_getElem (by simp; omega)]
  rw [e1, List.append_assoc, List.set_append_right _ _ (by simp; omega), List.drop_eq_getElem_cons hm]
  have e2 : m + n - ((b ++ List.replicate n (0 : UInt8)).take (m + n)).length = 0 := by simp; omega
  rw [e2]
  rfl
theorem shf_end {b : List UInt8} {n e : Nat} (h : n + b.length = 16) (he : e ≤ b.length) : (shf b n e).take e ++ (List.replicate n 0 ++ (shf b n e).drop (e + (List.replicate n (0 : UInt8)).length)) = b.take e ++ (List.replicate n 0 ++ b.drop e) := by
  unfold shf
  have e1 : ((b ++ List.replicate n (0 : UInt8)).take (e + n)).length = e + n := by simp; omega
  rw [List.length_replicate, List.drop_left' e1, List.take_append_of_le_length (by omega), List.take_take, Nat.min_eq_left (by omega), List.take_append_of_le_length he]
end Go.Proofs.YtkmjejgeeghjmaaDoor
