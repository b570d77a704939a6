/-
  NARROWER THAN 'FOR EVERY INPUT', by the rows' own cells (each row's printed sentence says how): FnTextRoundTrip: laid · FnJoinOfString: laid · FnColons: laid · FnMixedForm: laid · FnZeroGroups: laid · FnParseOfString: laid.
  DERIVED. THE GIVEN ROWS OF THIS SEAT. 6 by the template 'for every input the law returns true; each argument reads behind the call as it read before'; 0 by the template 'total and deterministic' (their statements: YtkmjejgeeghjmaaDoorTotals.lean).
  GIVEN WITH THE SEED: the statements are not yours to turn. If you find one false, say at which input.
  Laid BY PROGRAM, IN A SANDBOX (cutbox-rows.mjs): the forced cells as the released guide's own fill.sh prints them over the translation d09fadedced79d4e… (all of the seat's roots in one cut). By AI agents, Wed Nov 11 2026. No macro, syntax, notation, axiom, sorry.
-/
import Derived.Test.YtkmjejgeeghjmaaDoorChecked
import GoSem.Claim
import GoSem.ClaimJoined
import GoSem.ClaimMapViews
import Derived.JoinedTies
import Derived.KernelRfl
namespace Go.Proofs.YtkmjejgeeghjmaaDoor
/- THE CELL 'sum', in the pinned program and in every row, IS THE sha256 OF THE DUMP (.gsa) THAT YtkmjejgeeghjmaaDoorProg.lean LOADS. Nothing in Lean hashes anything: it is a label: what it is worth is what the hold of that sum in a sandbox is worth. -/
noncomputable def Tryd.pinned : Pinned := { name := "ytkmjejgeeghjmaadoor", sum := "d09fadedced79d4eb536653046f1959c136268e796936515cb44464117c0d8dd", checked := Tryd.checked }
namespace Rows
def none {H : Type} : Left H := { results := [], args := [] }

/- WHAT THE LISTED PACKAGE-LEVEL VARIABLES READ AS WHEN THE CALL BEGINS. Each datum BY PROGRAM (the guide's laid-datum.mjs) off the statement by which the dump's own 'gosem.cut.vars' lays the variable. In a bare row this is a premise. The card (YtkmjejgeeghjmaaDoorCards.lean) ties it to the program's text. -/
def laid_net_netip_z4 {H : Type} : DataW H := .agg [.ptr (.agg [.lit (.bool false), .lit (.string [])])]
def laid_net_netip_z6noz {H : Type} : DataW H := .agg [.ptr (.agg [.lit (.bool true), .lit (.string [])])]
def laid_net_netip_z0 {H : Type} : DataW H := .agg [.nil]

/-- 'laws.FnTextRoundTrip': WHATEVER THE INPUT: true; the input reads as it did. -/
def fnTextRoundTripSpec : ChangeSpec := { name := "fnTextRoundTrip", fn := fun _ => fun
  | [d] => { results := [.lit (.bool true)], args := [d] }
  | _ => none }
def fnTextRoundTripRow : OpenClaim := { program := "ytkmjejgeeghjmaadoor", sum := "d09fadedced79d4eb536653046f1959c136268e796936515cb44464117c0d8dd", func := "lib-milestone/laws.FnTextRoundTrip", spec := "fnTextRoundTrip", inPlace := ["internal/bytealg.IndexByteString", "unique.Make[net/netip.addrDetail]"], named := ["net/netip.z4", "net/netip.z6noz", "net/netip.z0"], apart := false, laid := [("net/netip.z4", laid_net_netip_z4), ("net/netip.z6noz", laid_net_netip_z6noz), ("net/netip.z0", laid_net_netip_z0)] }
def FnTextRoundTripSaid : Prop := fnTextRoundTripRow.holds Tryd.pinned (OpenSpec.ofChange fnTextRoundTripSpec)

/-- ITS FALSE NEIGHBOUR: 'it returns false'. Refute it at one input. -/
def fnTextRoundTripWrong : ChangeSpec := { name := "fnTextRoundTrip", fn := fun _ => fun
  | [d] => { results := [.lit (.bool false)], args := [d] }
  | _ => none }
def FnTextRoundTripWrongFalsely : Prop := fnTextRoundTripRow.holds Tryd.pinned (OpenSpec.ofChange fnTextRoundTripWrong)

/-- 'laws.FnJoinOfString': WHATEVER THE INPUT: true; the input reads as it did. -/
def fnJoinOfStringSpec : ChangeSpec := { name := "fnJoinOfString", fn := fun _ => fun
  | [d1, d2] => { results := [.lit (.bool true)], args := [d1, d2] }
  | _ => none }
def fnJoinOfStringRow : OpenClaim := { program := "ytkmjejgeeghjmaadoor", sum := "d09fadedced79d4eb536653046f1959c136268e796936515cb44464117c0d8dd", func := "lib-milestone/laws.FnJoinOfString", spec := "fnJoinOfString", inPlace := ["internal/bytealg.IndexByteString", "unique.Make[net/netip.addrDetail]"], unfollowed := true, recurses := true, named := ["net/netip.z4", "net/netip.z6noz", "net/netip.z0"], apart := false, laid := [("net/netip.z4", laid_net_netip_z4), ("net/netip.z6noz", laid_net_netip_z6noz), ("net/netip.z0", laid_net_netip_z0)] }
def FnJoinOfStringSaid : Prop := fnJoinOfStringRow.holds Tryd.pinned (OpenSpec.ofChange fnJoinOfStringSpec)

/-- ITS FALSE NEIGHBOUR: 'it returns false'. Refute it at one input. -/
def fnJoinOfStringWrong : ChangeSpec := { name := "fnJoinOfString", fn := fun _ => fun
  | [d1, d2] => { results := [.lit (.bool false)], args := [d1, d2] }
  | _ => none }
def FnJoinOfStringWrongFalsely : Prop := fnJoinOfStringRow.holds Tryd.pinned (OpenSpec.ofChange fnJoinOfStringWrong)

/-- 'laws.FnColons': WHATEVER THE INPUT: true; the input reads as it did. -/
def fnColonsSpec : ChangeSpec := { name := "fnColons", fn := fun _ => fun
  | [d1, d2, d3] => { results := [.lit (.bool true)], args := [d1, d2, d3] }
  | _ => none }
def fnColonsRow : OpenClaim := { program := "ytkmjejgeeghjmaadoor", sum := "d09fadedced79d4eb536653046f1959c136268e796936515cb44464117c0d8dd", func := "lib-milestone/laws.FnColons", spec := "fnColons", inPlace := ["internal/bytealg.IndexByteString", "unique.Make[net/netip.addrDetail]"], named := ["net/netip.z4", "net/netip.z6noz", "net/netip.z0"], apart := false, laid := [("net/netip.z4", laid_net_netip_z4), ("net/netip.z6noz", laid_net_netip_z6noz), ("net/netip.z0", laid_net_netip_z0)] }
def FnColonsSaid : Prop := fnColonsRow.holds Tryd.pinned (OpenSpec.ofChange fnColonsSpec)

/-- ITS FALSE NEIGHBOUR: 'it returns false'. Refute it at one input. -/
def fnColonsWrong : ChangeSpec := { name := "fnColons", fn := fun _ => fun
  | [d1, d2, d3] => { results := [.lit (.bool false)], args := [d1, d2, d3] }
  | _ => none }
def FnColonsWrongFalsely : Prop := fnColonsRow.holds Tryd.pinned (OpenSpec.ofChange fnColonsWrong)

/-- 'laws.FnMixedForm': WHATEVER THE INPUT: true; the input reads as it did. -/
def fnMixedFormSpec : ChangeSpec := { name := "fnMixedForm", fn := fun _ => fun
  | [d] => { results := [.lit (.bool true)], args := [d] }
  | _ => none }
def fnMixedFormRow : OpenClaim := { program := "ytkmjejgeeghjmaadoor", sum := "d09fadedced79d4eb536653046f1959c136268e796936515cb44464117c0d8dd", func := "lib-milestone/laws.FnMixedForm", spec := "fnMixedForm", inPlace := ["internal/bytealg.IndexByteString", "unique.Make[net/netip.addrDetail]"], recurses := true, named := ["net/netip.z4", "net/netip.z6noz", "net/netip.z0"], apart := false, laid := [("net/netip.z4", laid_net_netip_z4), ("net/netip.z6noz", laid_net_netip_z6noz), ("net/netip.z0", laid_net_netip_z0)] }
def FnMixedFormSaid : Prop := fnMixedFormRow.holds Tryd.pinned (OpenSpec.ofChange fnMixedFormSpec)

/-- ITS FALSE NEIGHBOUR: 'it returns false'. Refute it at one input. -/
def fnMixedFormWrong : ChangeSpec := { name := "fnMixedForm", fn := fun _ => fun
  | [d] => { results := [.lit (.bool false)], args := [d] }
  | _ => none }
def FnMixedFormWrongFalsely : Prop := fnMixedFormRow.holds Tryd.pinned (OpenSpec.ofChange fnMixedFormWrong)

/-- 'laws.FnZeroGroups': WHATEVER THE INPUT: true; the input reads as it did. -/
def fnZeroGroupsSpec : ChangeSpec := { name := "fnZeroGroups", fn := fun _ => fun
  | [d1, d2] => { results := [.lit (.bool true)], args := [d1, d2] }
  | _ => none }
def fnZeroGroupsRow : OpenClaim := { program := "ytkmjejgeeghjmaadoor", sum := "d09fadedced79d4eb536653046f1959c136268e796936515cb44464117c0d8dd", func := "lib-milestone/laws.FnZeroGroups", spec := "fnZeroGroups", inPlace := ["internal/bytealg.IndexByteString", "unique.Make[net/netip.addrDetail]"], named := ["net/netip.z4", "net/netip.z6noz", "net/netip.z0"], apart := false, laid := [("net/netip.z4", laid_net_netip_z4), ("net/netip.z6noz", laid_net_netip_z6noz), ("net/netip.z0", laid_net_netip_z0)] }
def FnZeroGroupsSaid : Prop := fnZeroGroupsRow.holds Tryd.pinned (OpenSpec.ofChange fnZeroGroupsSpec)

/-- ITS FALSE NEIGHBOUR: 'it returns false'. Refute it at one input. -/
def fnZeroGroupsWrong : ChangeSpec := { name := "fnZeroGroups", fn := fun _ => fun
  | [d1, d2] => { results := [.lit (.bool false)], args := [d1, d2] }
  | _ => none }
def FnZeroGroupsWrongFalsely : Prop := fnZeroGroupsRow.holds Tryd.pinned (OpenSpec.ofChange fnZeroGroupsWrong)

/-- 'laws.FnParseOfString': WHATEVER THE INPUT: true; the input reads as it did. -/
def fnParseOfStringSpec : ChangeSpec := { name := "fnParseOfString", fn := fun _ => fun
  | [d] => { results := [.lit (.bool true)], args := [d] }
  | _ => none }
def fnParseOfStringRow : OpenClaim := { program := "ytkmjejgeeghjmaadoor", sum := "d09fadedced79d4eb536653046f1959c136268e796936515cb44464117c0d8dd", func := "lib-milestone/laws.FnParseOfString", spec := "fnParseOfString", inPlace := ["internal/bytealg.IndexByteString", "unique.Make[net/netip.addrDetail]"], named := ["net/netip.z4", "net/netip.z6noz", "net/netip.z0"], apart := false, laid := [("net/netip.z4", laid_net_netip_z4), ("net/netip.z6noz", laid_net_netip_z6noz), ("net/netip.z0", laid_net_netip_z0)] }
def FnParseOfStringSaid : Prop := fnParseOfStringRow.holds Tryd.pinned (OpenSpec.ofChange fnParseOfStringSpec)

/-- ITS FALSE NEIGHBOUR: 'it returns false'. Refute it at one input. -/
def fnParseOfStringWrong : ChangeSpec := { name := "fnParseOfString", fn := fun _ => fun
  | [d] => { results := [.lit (.bool false)], args := [d] }
  | _ => none }
def FnParseOfStringWrongFalsely : Prop := fnParseOfStringRow.holds Tryd.pinned (OpenSpec.ofChange fnParseOfStringWrong)

/- THE SECOND FORM. 'bulk': how many values and letters a reading holds, each counted each time it is reached (what is shared counts as often as it is met; a slice's spare places count too). A statement '..UptoSaid' is the law's where the arguments, and the package variables that the reading takes, are together of bulk at most 1048576: NARROWER than '..Said'. Prove '..Said' where nothing that the law and all that it calls make is longer than what came in: it says more and counts as full. Else prove '..UptoSaid'. A law counts once. -/
mutual
def uptoBulk {H : Type} : DataW H → Nat
  | .lit (.string bytes) => bytes.length + 1
  | .lit _ => 1
  | .nil => 1
  | .ptr d => uptoBulk d + 1
  | .slice elems spare => uptoBulkAll elems + uptoBulkAll spare + 1
  | .agg parts => uptoBulkAll parts + 1
  | .iface _ d => uptoBulk d + 1
  | .map entries => uptoBulkEntries entries + 1
  | .held _ => 1
def uptoBulkAll {H : Type} : List (DataW H) → Nat
  | [] => 0
  | d :: r => uptoBulk d + uptoBulkAll r
def uptoBulkEntries {H : Type} : List (Lit × DataW H) → Nat
  | [] => 0
  | x :: r => uptoBulkEntry x + uptoBulkEntries r
def uptoBulkEntry {H : Type} : Lit × DataW H → Nat
  | (.string bytes, d) => bytes.length + uptoBulk d + 1
  | (_, d) => uptoBulk d + 1
 end
def uptoSmall : (H : Type) → List (DataW H) → Bool := fun _ ds => decide (uptoBulkAll ds ≤ 1048576)
def OpenSpec.upto (s : _root_.Go.ChangeSpec) : _root_.Go.OpenSpec := { _root_.Go.OpenSpec.ofChange s with cond := some uptoSmall }

/-- 'laws.FnTextRoundTrip', WHERE WHAT IT READS IS OF BULK AT MOST 1048576: true; the input reads as it did. -/
def fnTextRoundTripUptoRow : OpenClaim := { program := "ytkmjejgeeghjmaadoor", sum := "d09fadedced79d4eb536653046f1959c136268e796936515cb44464117c0d8dd", func := "lib-milestone/laws.FnTextRoundTrip", spec := "fnTextRoundTrip", inPlace := ["internal/bytealg.IndexByteString", "unique.Make[net/netip.addrDetail]"], named := ["net/netip.z4", "net/netip.z6noz", "net/netip.z0"], apart := false, laid := [("net/netip.z4", laid_net_netip_z4), ("net/netip.z6noz", laid_net_netip_z6noz), ("net/netip.z0", laid_net_netip_z0)], narrowed := true }
def FnTextRoundTripUptoSaid : Prop := fnTextRoundTripUptoRow.holds Tryd.pinned (OpenSpec.upto fnTextRoundTripSpec)

/-- 'laws.FnJoinOfString', WHERE WHAT IT READS IS OF BULK AT MOST 1048576: true; the input reads as it did. -/
def fnJoinOfStringUptoRow : OpenClaim := { program := "ytkmjejgeeghjmaadoor", sum := "d09fadedced79d4eb536653046f1959c136268e796936515cb44464117c0d8dd", func := "lib-milestone/laws.FnJoinOfString", spec := "fnJoinOfString", inPlace := ["internal/bytealg.IndexByteString", "unique.Make[net/netip.addrDetail]"], unfollowed := true, recurses := true, named := ["net/netip.z4", "net/netip.z6noz", "net/netip.z0"], apart := false, laid := [("net/netip.z4", laid_net_netip_z4), ("net/netip.z6noz", laid_net_netip_z6noz), ("net/netip.z0", laid_net_netip_z0)], narrowed := true }
def FnJoinOfStringUptoSaid : Prop := fnJoinOfStringUptoRow.holds Tryd.pinned (OpenSpec.upto fnJoinOfStringSpec)

/-- 'laws.FnColons', WHERE WHAT IT READS IS OF BULK AT MOST 1048576: true; the input reads as it did. -/
def fnColonsUptoRow : OpenClaim := { program := "ytkmjejgeeghjmaadoor", sum := "d09fadedced79d4eb536653046f1959c136268e796936515cb44464117c0d8dd", func := "lib-milestone/laws.FnColons", spec := "fnColons", inPlace := ["internal/bytealg.IndexByteString", "unique.Make[net/netip.addrDetail]"], named := ["net/netip.z4", "net/netip.z6noz", "net/netip.z0"], apart := false, laid := [("net/netip.z4", laid_net_netip_z4), ("net/netip.z6noz", laid_net_netip_z6noz), ("net/netip.z0", laid_net_netip_z0)], narrowed := true }
def FnColonsUptoSaid : Prop := fnColonsUptoRow.holds Tryd.pinned (OpenSpec.upto fnColonsSpec)

/-- 'laws.FnMixedForm', WHERE WHAT IT READS IS OF BULK AT MOST 1048576: true; the input reads as it did. -/
def fnMixedFormUptoRow : OpenClaim := { program := "ytkmjejgeeghjmaadoor", sum := "d09fadedced79d4eb536653046f1959c136268e796936515cb44464117c0d8dd", func := "lib-milestone/laws.FnMixedForm", spec := "fnMixedForm", inPlace := ["internal/bytealg.IndexByteString", "unique.Make[net/netip.addrDetail]"], recurses := true, named := ["net/netip.z4", "net/netip.z6noz", "net/netip.z0"], apart := false, laid := [("net/netip.z4", laid_net_netip_z4), ("net/netip.z6noz", laid_net_netip_z6noz), ("net/netip.z0", laid_net_netip_z0)], narrowed := true }
def FnMixedFormUptoSaid : Prop := fnMixedFormUptoRow.holds Tryd.pinned (OpenSpec.upto fnMixedFormSpec)

/-- 'laws.FnZeroGroups', WHERE WHAT IT READS IS OF BULK AT MOST 1048576: true; the input reads as it did. -/
def fnZeroGroupsUptoRow : OpenClaim := { program := "ytkmjejgeeghjmaadoor", sum := "d09fadedced79d4eb536653046f1959c136268e796936515cb44464117c0d8dd", func := "lib-milestone/laws.FnZeroGroups", spec := "fnZeroGroups", inPlace := ["internal/bytealg.IndexByteString", "unique.Make[net/netip.addrDetail]"], named := ["net/netip.z4", "net/netip.z6noz", "net/netip.z0"], apart := false, laid := [("net/netip.z4", laid_net_netip_z4), ("net/netip.z6noz", laid_net_netip_z6noz), ("net/netip.z0", laid_net_netip_z0)], narrowed := true }
def FnZeroGroupsUptoSaid : Prop := fnZeroGroupsUptoRow.holds Tryd.pinned (OpenSpec.upto fnZeroGroupsSpec)

/-- 'laws.FnParseOfString', WHERE WHAT IT READS IS OF BULK AT MOST 1048576: true; the input reads as it did. -/
def fnParseOfStringUptoRow : OpenClaim := { program := "ytkmjejgeeghjmaadoor", sum := "d09fadedced79d4eb536653046f1959c136268e796936515cb44464117c0d8dd", func := "lib-milestone/laws.FnParseOfString", spec := "fnParseOfString", inPlace := ["internal/bytealg.IndexByteString", "unique.Make[net/netip.addrDetail]"], named := ["net/netip.z4", "net/netip.z6noz", "net/netip.z0"], apart := false, laid := [("net/netip.z4", laid_net_netip_z4), ("net/netip.z6noz", laid_net_netip_z6noz), ("net/netip.z0", laid_net_netip_z0)], narrowed := true }
def FnParseOfStringUptoSaid : Prop := fnParseOfStringUptoRow.holds Tryd.pinned (OpenSpec.upto fnParseOfStringSpec)

end Rows
end Go.Proofs.YtkmjejgeeghjmaaDoor
