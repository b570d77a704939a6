/-
  NARROWER THAN 'FOR EVERY INPUT', by the rows' own cells (each row's printed sentence says how): FnMask: laid · FnMaskAll: laid · FnMaskTwice: laid · FnMaskKeeps: laid · FnMasksNested: laid · FnNetContainsItself: laid.
  DERIVED. THE GIVEN ROWS OF THIS SEAT. 6 by the template 'for every input the law returns true; each argument reads behind the call as it read before'; 0 by the template 'total and deterministic' (their statements: YtkabdfmcflkkoaaDoorTotals.lean).
  GIVEN WITH THE SEED: the statements are not yours to turn. If you find one false, say at which input.
  Laid BY PROGRAM, IN A SANDBOX (cutbox-rows.mjs): the forced cells as the released guide's own fill.sh prints them over the translation 9a861f60c69e98a7… (all of the seat's roots in one cut). By AI agents, Wed Nov 11 2026. No macro, syntax, notation, axiom, sorry.
-/
import Derived.Test.YtkabdfmcflkkoaaDoorChecked
import GoSem.Claim
import GoSem.ClaimJoined
import GoSem.ClaimMapViews
import Derived.JoinedTies
import Derived.KernelRfl
namespace Go.Proofs.YtkabdfmcflkkoaaDoor
/- THE CELL 'sum', in the pinned program and in every row, IS THE sha256 OF THE DUMP (.gsa) THAT YtkabdfmcflkkoaaDoorProg.lean LOADS. Nothing in Lean hashes anything: it is a label: what it is worth is what the hold of that sum in a sandbox is worth. -/
noncomputable def Tryd.pinned : Pinned := { name := "ytkabdfmcflkkoaadoor", sum := "9a861f60c69e98a784e5859e66b7fe58a06db6d6da67e97f13a5129ba919ca49", checked := Tryd.checked }
namespace Rows
def none {H : Type} : Left H := { results := [], args := [] }

/- WHAT THE LISTED PACKAGE-LEVEL VARIABLES READ AS WHEN THE CALL BEGINS. Each datum BY PROGRAM (the guide's laid-datum.mjs) off the statement by which the dump's own 'gosem.cut.vars' lays the variable. In a bare row this is a premise. The card (YtkabdfmcflkkoaaDoorCards.lean) ties it to the program's text. -/
def laid_net_v4InV6Prefix {H : Type} : DataW H := .slice [.lit (.int .u8 0), .lit (.int .u8 0), .lit (.int .u8 0), .lit (.int .u8 0), .lit (.int .u8 0), .lit (.int .u8 0), .lit (.int .u8 0), .lit (.int .u8 0), .lit (.int .u8 0), .lit (.int .u8 0), .lit (.int .u8 255), .lit (.int .u8 255)] []

/-- 'laws.FnMask': WHATEVER THE INPUT: true; the input reads as it did. -/
def fnMaskSpec : ChangeSpec := { name := "fnMask", fn := fun _ => fun
  | [d1, d2] => { results := [.lit (.bool true)], args := [d1, d2] }
  | _ => none }
def fnMaskRow : OpenClaim := { program := "ytkabdfmcflkkoaadoor", sum := "9a861f60c69e98a784e5859e66b7fe58a06db6d6da67e97f13a5129ba919ca49", func := "lib-milestone/laws.FnMask", spec := "fnMask", named := ["net.v4InV6Prefix"], apart := false, laid := [("net.v4InV6Prefix", laid_net_v4InV6Prefix)] }
def FnMaskSaid : Prop := fnMaskRow.holds Tryd.pinned (OpenSpec.ofChange fnMaskSpec)

/-- ITS FALSE NEIGHBOUR: 'it returns false'. Refute it at one input. -/
def fnMaskWrong : ChangeSpec := { name := "fnMask", fn := fun _ => fun
  | [d1, d2] => { results := [.lit (.bool false)], args := [d1, d2] }
  | _ => none }
def FnMaskWrongFalsely : Prop := fnMaskRow.holds Tryd.pinned (OpenSpec.ofChange fnMaskWrong)

/-- 'laws.FnMaskAll': WHATEVER THE INPUT: true; the input reads as it did. -/
def fnMaskAllSpec : ChangeSpec := { name := "fnMaskAll", fn := fun _ => fun
  | [d1, d2] => { results := [.lit (.bool true)], args := [d1, d2] }
  | _ => none }
def fnMaskAllRow : OpenClaim := { program := "ytkabdfmcflkkoaadoor", sum := "9a861f60c69e98a784e5859e66b7fe58a06db6d6da67e97f13a5129ba919ca49", func := "lib-milestone/laws.FnMaskAll", spec := "fnMaskAll", named := ["net.v4InV6Prefix"], apart := false, laid := [("net.v4InV6Prefix", laid_net_v4InV6Prefix)] }
def FnMaskAllSaid : Prop := fnMaskAllRow.holds Tryd.pinned (OpenSpec.ofChange fnMaskAllSpec)

/-- ITS FALSE NEIGHBOUR: 'it returns false'. Refute it at one input. -/
def fnMaskAllWrong : ChangeSpec := { name := "fnMaskAll", fn := fun _ => fun
  | [d1, d2] => { results := [.lit (.bool false)], args := [d1, d2] }
  | _ => none }
def FnMaskAllWrongFalsely : Prop := fnMaskAllRow.holds Tryd.pinned (OpenSpec.ofChange fnMaskAllWrong)

/-- 'laws.FnMaskTwice': WHATEVER THE INPUT: true; the input reads as it did. -/
def fnMaskTwiceSpec : ChangeSpec := { name := "fnMaskTwice", fn := fun _ => fun
  | [d1, d2, d3] => { results := [.lit (.bool true)], args := [d1, d2, d3] }
  | _ => none }
def fnMaskTwiceRow : OpenClaim := { program := "ytkabdfmcflkkoaadoor", sum := "9a861f60c69e98a784e5859e66b7fe58a06db6d6da67e97f13a5129ba919ca49", func := "lib-milestone/laws.FnMaskTwice", spec := "fnMaskTwice", named := ["net.v4InV6Prefix"], apart := false, laid := [("net.v4InV6Prefix", laid_net_v4InV6Prefix)] }
def FnMaskTwiceSaid : Prop := fnMaskTwiceRow.holds Tryd.pinned (OpenSpec.ofChange fnMaskTwiceSpec)

/-- ITS FALSE NEIGHBOUR: 'it returns false'. Refute it at one input. -/
def fnMaskTwiceWrong : ChangeSpec := { name := "fnMaskTwice", fn := fun _ => fun
  | [d1, d2, d3] => { results := [.lit (.bool false)], args := [d1, d2, d3] }
  | _ => none }
def FnMaskTwiceWrongFalsely : Prop := fnMaskTwiceRow.holds Tryd.pinned (OpenSpec.ofChange fnMaskTwiceWrong)

/-- 'laws.FnMaskKeeps': WHATEVER THE INPUT: true; the input reads as it did. -/
def fnMaskKeepsSpec : ChangeSpec := { name := "fnMaskKeeps", fn := fun _ => fun
  | [d1, d2] => { results := [.lit (.bool true)], args := [d1, d2] }
  | _ => none }
def fnMaskKeepsRow : OpenClaim := { program := "ytkabdfmcflkkoaadoor", sum := "9a861f60c69e98a784e5859e66b7fe58a06db6d6da67e97f13a5129ba919ca49", func := "lib-milestone/laws.FnMaskKeeps", spec := "fnMaskKeeps", named := ["net.v4InV6Prefix"], apart := false, laid := [("net.v4InV6Prefix", laid_net_v4InV6Prefix)] }
def FnMaskKeepsSaid : Prop := fnMaskKeepsRow.holds Tryd.pinned (OpenSpec.ofChange fnMaskKeepsSpec)

/-- ITS FALSE NEIGHBOUR: 'it returns false'. Refute it at one input. -/
def fnMaskKeepsWrong : ChangeSpec := { name := "fnMaskKeeps", fn := fun _ => fun
  | [d1, d2] => { results := [.lit (.bool false)], args := [d1, d2] }
  | _ => none }
def FnMaskKeepsWrongFalsely : Prop := fnMaskKeepsRow.holds Tryd.pinned (OpenSpec.ofChange fnMaskKeepsWrong)

/-- 'laws.FnMasksNested': WHATEVER THE INPUT: true; the input reads as it did. -/
def fnMasksNestedSpec : ChangeSpec := { name := "fnMasksNested", fn := fun _ => fun
  | [d1, d2, d3] => { results := [.lit (.bool true)], args := [d1, d2, d3] }
  | _ => none }
def fnMasksNestedRow : OpenClaim := { program := "ytkabdfmcflkkoaadoor", sum := "9a861f60c69e98a784e5859e66b7fe58a06db6d6da67e97f13a5129ba919ca49", func := "lib-milestone/laws.FnMasksNested", spec := "fnMasksNested", named := ["net.v4InV6Prefix"], apart := false, laid := [("net.v4InV6Prefix", laid_net_v4InV6Prefix)] }
def FnMasksNestedSaid : Prop := fnMasksNestedRow.holds Tryd.pinned (OpenSpec.ofChange fnMasksNestedSpec)

/-- ITS FALSE NEIGHBOUR: 'it returns false'. Refute it at one input. -/
def fnMasksNestedWrong : ChangeSpec := { name := "fnMasksNested", fn := fun _ => fun
  | [d1, d2, d3] => { results := [.lit (.bool false)], args := [d1, d2, d3] }
  | _ => none }
def FnMasksNestedWrongFalsely : Prop := fnMasksNestedRow.holds Tryd.pinned (OpenSpec.ofChange fnMasksNestedWrong)

/-- 'laws.FnNetContainsItself': WHATEVER THE INPUT: true; the input reads as it did. -/
def fnNetContainsItselfSpec : ChangeSpec := { name := "fnNetContainsItself", fn := fun _ => fun
  | [d1, d2] => { results := [.lit (.bool true)], args := [d1, d2] }
  | _ => none }
def fnNetContainsItselfRow : OpenClaim := { program := "ytkabdfmcflkkoaadoor", sum := "9a861f60c69e98a784e5859e66b7fe58a06db6d6da67e97f13a5129ba919ca49", func := "lib-milestone/laws.FnNetContainsItself", spec := "fnNetContainsItself", named := ["net.v4InV6Prefix"], apart := false, laid := [("net.v4InV6Prefix", laid_net_v4InV6Prefix)] }
def FnNetContainsItselfSaid : Prop := fnNetContainsItselfRow.holds Tryd.pinned (OpenSpec.ofChange fnNetContainsItselfSpec)

/-- ITS FALSE NEIGHBOUR: 'it returns false'. Refute it at one input. -/
def fnNetContainsItselfWrong : ChangeSpec := { name := "fnNetContainsItself", fn := fun _ => fun
  | [d1, d2] => { results := [.lit (.bool false)], args := [d1, d2] }
  | _ => none }
def FnNetContainsItselfWrongFalsely : Prop := fnNetContainsItselfRow.holds Tryd.pinned (OpenSpec.ofChange fnNetContainsItselfWrong)

/- THE SECOND FORM. 'bulk': how many values and letters a reading holds, each counted each time it is reached (what is shared counts as often as it is met; a slice's spare places count too). A statement '..UptoSaid' is the law's where the arguments, and the package variables that the reading takes, are together of bulk at most 1048576: NARROWER than '..Said'. Prove '..Said' where nothing that the law and all that it calls make is longer than what came in: it says more and counts as full. Else prove '..UptoSaid'. A law counts once. -/
mutual
def uptoBulk {H : Type} : DataW H → Nat
  | .lit (.string bytes) => bytes.length + 1
  | .lit _ => 1
  | .nil => 1
  | .ptr d => uptoBulk d + 1
  | .slice elems spare => uptoBulkAll elems + uptoBulkAll spare + 1
  | .agg parts => uptoBulkAll parts + 1
  | .iface _ d => uptoBulk d + 1
  | .map entries => uptoBulkEntries entries + 1
  | .held _ => 1
def uptoBulkAll {H : Type} : List (DataW H) → Nat
  | [] => 0
  | d :: r => uptoBulk d + uptoBulkAll r
def uptoBulkEntries {H : Type} : List (Lit × DataW H) → Nat
  | [] => 0
  | x :: r => uptoBulkEntry x + uptoBulkEntries r
def uptoBulkEntry {H : Type} : Lit × DataW H → Nat
  | (.string bytes, d) => bytes.length + uptoBulk d + 1
  | (_, d) => uptoBulk d + 1
 end
def uptoSmall : (H : Type) → List (DataW H) → Bool := fun _ ds => decide (uptoBulkAll ds ≤ 1048576)
def OpenSpec.upto (s : _root_.Go.ChangeSpec) : _root_.Go.OpenSpec := { _root_.Go.OpenSpec.ofChange s with cond := some uptoSmall }

/-- 'laws.FnMask', WHERE WHAT IT READS IS OF BULK AT MOST 1048576: true; the input reads as it did. -/
def fnMaskUptoRow : OpenClaim := { program := "ytkabdfmcflkkoaadoor", sum := "9a861f60c69e98a784e5859e66b7fe58a06db6d6da67e97f13a5129ba919ca49", func := "lib-milestone/laws.FnMask", spec := "fnMask", named := ["net.v4InV6Prefix"], apart := false, laid := [("net.v4InV6Prefix", laid_net_v4InV6Prefix)], narrowed := true }
def FnMaskUptoSaid : Prop := fnMaskUptoRow.holds Tryd.pinned (OpenSpec.upto fnMaskSpec)

/-- 'laws.FnMaskAll', WHERE WHAT IT READS IS OF BULK AT MOST 1048576: true; the input reads as it did. -/
def fnMaskAllUptoRow : OpenClaim := { program := "ytkabdfmcflkkoaadoor", sum := "9a861f60c69e98a784e5859e66b7fe58a06db6d6da67e97f13a5129ba919ca49", func := "lib-milestone/laws.FnMaskAll", spec := "fnMaskAll", named := ["net.v4InV6Prefix"], apart := false, laid := [("net.v4InV6Prefix", laid_net_v4InV6Prefix)], narrowed := true }
def FnMaskAllUptoSaid : Prop := fnMaskAllUptoRow.holds Tryd.pinned (OpenSpec.upto fnMaskAllSpec)

/-- 'laws.FnMaskTwice', WHERE WHAT IT READS IS OF BULK AT MOST 1048576: true; the input reads as it did. -/
def fnMaskTwiceUptoRow : OpenClaim := { program := "ytkabdfmcflkkoaadoor", sum := "9a861f60c69e98a784e5859e66b7fe58a06db6d6da67e97f13a5129ba919ca49", func := "lib-milestone/laws.FnMaskTwice", spec := "fnMaskTwice", named := ["net.v4InV6Prefix"], apart := false, laid := [("net.v4InV6Prefix", laid_net_v4InV6Prefix)], narrowed := true }
def FnMaskTwiceUptoSaid : Prop := fnMaskTwiceUptoRow.holds Tryd.pinned (OpenSpec.upto fnMaskTwiceSpec)

/-- 'laws.FnMaskKeeps', WHERE WHAT IT READS IS OF BULK AT MOST 1048576: true; the input reads as it did. -/
def fnMaskKeepsUptoRow : OpenClaim := { program := "ytkabdfmcflkkoaadoor", sum := "9a861f60c69e98a784e5859e66b7fe58a06db6d6da67e97f13a5129ba919ca49", func := "lib-milestone/laws.FnMaskKeeps", spec := "fnMaskKeeps", named := ["net.v4InV6Prefix"], apart := false, laid := [("net.v4InV6Prefix", laid_net_v4InV6Prefix)], narrowed := true }
def FnMaskKeepsUptoSaid : Prop := fnMaskKeepsUptoRow.holds Tryd.pinned (OpenSpec.upto fnMaskKeepsSpec)

/-- 'laws.FnMasksNested', WHERE WHAT IT READS IS OF BULK AT MOST 1048576: true; the input reads as it did. -/
def fnMasksNestedUptoRow : OpenClaim := { program := "ytkabdfmcflkkoaadoor", sum := "9a861f60c69e98a784e5859e66b7fe58a06db6d6da67e97f13a5129ba919ca49", func := "lib-milestone/laws.FnMasksNested", spec := "fnMasksNested", named := ["net.v4InV6Prefix"], apart := false, laid := [("net.v4InV6Prefix", laid_net_v4InV6Prefix)], narrowed := true }
def FnMasksNestedUptoSaid : Prop := fnMasksNestedUptoRow.holds Tryd.pinned (OpenSpec.upto fnMasksNestedSpec)

/-- 'laws.FnNetContainsItself', WHERE WHAT IT READS IS OF BULK AT MOST 1048576: true; the input reads as it did. -/
def fnNetContainsItselfUptoRow : OpenClaim := { program := "ytkabdfmcflkkoaadoor", sum := "9a861f60c69e98a784e5859e66b7fe58a06db6d6da67e97f13a5129ba919ca49", func := "lib-milestone/laws.FnNetContainsItself", spec := "fnNetContainsItself", named := ["net.v4InV6Prefix"], apart := false, laid := [("net.v4InV6Prefix", laid_net_v4InV6Prefix)], narrowed := true }
def FnNetContainsItselfUptoSaid : Prop := fnNetContainsItselfUptoRow.holds Tryd.pinned (OpenSpec.upto fnNetContainsItselfSpec)

end Rows
end Go.Proofs.YtkabdfmcflkkoaaDoor
