/-
  No cell of these rows narrows 'for every input' (looked for: loops, veiled, ifaces, maps, wideKeys, modest, calm, conditions, laid).
  DERIVED. THE GIVEN ROWS OF THIS SEAT. 6 by the template 'for every input the law returns true; each argument reads behind the call as it read before'; 0 by the template 'total and deterministic' (their statements: YtkabdfmcflkkoaaTotals.lean).
  GIVEN WITH THE SEED: the statements are not yours to turn. If you find one false, say at which input.
  Laid BY PROGRAM, IN A SANDBOX (cutbox-rows.mjs): the forced cells as the released guide's own fill.sh prints them over the translation 3fac9772ed1335fb… (all of the seat's roots in one cut). By AI agents, Wed Nov 11 2026. No macro, syntax, notation, axiom, sorry.
-/
import Derived.Test.YtkabdfmcflkkoaaChecked
import GoSem.Claim
import GoSem.ClaimJoined
import GoSem.ClaimMapViews
import Derived.JoinedTies
import Derived.KernelRfl
namespace Go.Proofs.Ytkabdfmcflkkoaa
/- THE CELL 'sum', in the pinned program and in every row, IS THE sha256 OF THE DUMP (.gsa) THAT YtkabdfmcflkkoaaProg.lean LOADS. Nothing in Lean hashes anything: it is a label: what it is worth is what the hold of that sum in a sandbox is worth. -/
noncomputable def Try.pinned : Pinned := { name := "ytkabdfmcflkkoaa", sum := "3fac9772ed1335fbd10496fa318a2e01e3d75679794335bfa28afd91a28a0a58", checked := Try.checked }
namespace Rows
def none {H : Type} : Left H := { results := [], args := [] }

/-- 'laws.FnCIDRMask': WHATEVER THE INPUT: true; the input reads as it did. -/
def fnCIDRMaskSpec : ChangeSpec := { name := "fnCIDRMask", fn := fun _ => fun
  | [d1, d2] => { results := [.lit (.bool true)], args := [d1, d2] }
  | _ => none }
def fnCIDRMaskRow : OpenClaim := { program := "ytkabdfmcflkkoaa", sum := "3fac9772ed1335fbd10496fa318a2e01e3d75679794335bfa28afd91a28a0a58", func := "lib-milestone/laws.FnCIDRMask", spec := "fnCIDRMask", apart := false }
def FnCIDRMaskSaid : Prop := fnCIDRMaskRow.holds Try.pinned (OpenSpec.ofChange fnCIDRMaskSpec)

/-- ITS FALSE NEIGHBOUR: 'it returns false'. Refute it at one input. -/
def fnCIDRMaskWrong : ChangeSpec := { name := "fnCIDRMask", fn := fun _ => fun
  | [d1, d2] => { results := [.lit (.bool false)], args := [d1, d2] }
  | _ => none }
def FnCIDRMaskWrongFalsely : Prop := fnCIDRMaskRow.holds Try.pinned (OpenSpec.ofChange fnCIDRMaskWrong)

/-- 'laws.FnCIDRMaskAll': WHATEVER THE INPUT: true; the input reads as it did. -/
def fnCIDRMaskAllSpec : ChangeSpec := { name := "fnCIDRMaskAll", fn := fun _ => fun
  | [d1, d2] => { results := [.lit (.bool true)], args := [d1, d2] }
  | _ => none }
def fnCIDRMaskAllRow : OpenClaim := { program := "ytkabdfmcflkkoaa", sum := "3fac9772ed1335fbd10496fa318a2e01e3d75679794335bfa28afd91a28a0a58", func := "lib-milestone/laws.FnCIDRMaskAll", spec := "fnCIDRMaskAll", apart := false }
def FnCIDRMaskAllSaid : Prop := fnCIDRMaskAllRow.holds Try.pinned (OpenSpec.ofChange fnCIDRMaskAllSpec)

/-- ITS FALSE NEIGHBOUR: 'it returns false'. Refute it at one input. -/
def fnCIDRMaskAllWrong : ChangeSpec := { name := "fnCIDRMaskAll", fn := fun _ => fun
  | [d1, d2] => { results := [.lit (.bool false)], args := [d1, d2] }
  | _ => none }
def FnCIDRMaskAllWrongFalsely : Prop := fnCIDRMaskAllRow.holds Try.pinned (OpenSpec.ofChange fnCIDRMaskAllWrong)

/-- 'laws.FnMaskSize': WHATEVER THE INPUT: true; the input reads as it did. -/
def fnMaskSizeSpec : ChangeSpec := { name := "fnMaskSize", fn := fun _ => fun
  | [d] => { results := [.lit (.bool true)], args := [d] }
  | _ => none }
def fnMaskSizeRow : OpenClaim := { program := "ytkabdfmcflkkoaa", sum := "3fac9772ed1335fbd10496fa318a2e01e3d75679794335bfa28afd91a28a0a58", func := "lib-milestone/laws.FnMaskSize", spec := "fnMaskSize", apart := false }
def FnMaskSizeSaid : Prop := fnMaskSizeRow.holds Try.pinned (OpenSpec.ofChange fnMaskSizeSpec)

/-- ITS FALSE NEIGHBOUR: 'it returns false'. Refute it at one input. -/
def fnMaskSizeWrong : ChangeSpec := { name := "fnMaskSize", fn := fun _ => fun
  | [d] => { results := [.lit (.bool false)], args := [d] }
  | _ => none }
def FnMaskSizeWrongFalsely : Prop := fnMaskSizeRow.holds Try.pinned (OpenSpec.ofChange fnMaskSizeWrong)

/-- 'laws.FnCIDRMaskOfSize': WHATEVER THE INPUT: true; the input reads as it did. -/
def fnCIDRMaskOfSizeSpec : ChangeSpec := { name := "fnCIDRMaskOfSize", fn := fun _ => fun
  | [d] => { results := [.lit (.bool true)], args := [d] }
  | _ => none }
def fnCIDRMaskOfSizeRow : OpenClaim := { program := "ytkabdfmcflkkoaa", sum := "3fac9772ed1335fbd10496fa318a2e01e3d75679794335bfa28afd91a28a0a58", func := "lib-milestone/laws.FnCIDRMaskOfSize", spec := "fnCIDRMaskOfSize", apart := false }
def FnCIDRMaskOfSizeSaid : Prop := fnCIDRMaskOfSizeRow.holds Try.pinned (OpenSpec.ofChange fnCIDRMaskOfSizeSpec)

/-- ITS FALSE NEIGHBOUR: 'it returns false'. Refute it at one input. -/
def fnCIDRMaskOfSizeWrong : ChangeSpec := { name := "fnCIDRMaskOfSize", fn := fun _ => fun
  | [d] => { results := [.lit (.bool false)], args := [d] }
  | _ => none }
def FnCIDRMaskOfSizeWrongFalsely : Prop := fnCIDRMaskOfSizeRow.holds Try.pinned (OpenSpec.ofChange fnCIDRMaskOfSizeWrong)

/-- 'laws.FnSizeOfCIDRMask': WHATEVER THE INPUT: true; the input reads as it did. -/
def fnSizeOfCIDRMaskSpec : ChangeSpec := { name := "fnSizeOfCIDRMask", fn := fun _ => fun
  | [d1, d2] => { results := [.lit (.bool true)], args := [d1, d2] }
  | _ => none }
def fnSizeOfCIDRMaskRow : OpenClaim := { program := "ytkabdfmcflkkoaa", sum := "3fac9772ed1335fbd10496fa318a2e01e3d75679794335bfa28afd91a28a0a58", func := "lib-milestone/laws.FnSizeOfCIDRMask", spec := "fnSizeOfCIDRMask", apart := false }
def FnSizeOfCIDRMaskSaid : Prop := fnSizeOfCIDRMaskRow.holds Try.pinned (OpenSpec.ofChange fnSizeOfCIDRMaskSpec)

/-- ITS FALSE NEIGHBOUR: 'it returns false'. Refute it at one input. -/
def fnSizeOfCIDRMaskWrong : ChangeSpec := { name := "fnSizeOfCIDRMask", fn := fun _ => fun
  | [d1, d2] => { results := [.lit (.bool false)], args := [d1, d2] }
  | _ => none }
def FnSizeOfCIDRMaskWrongFalsely : Prop := fnSizeOfCIDRMaskRow.holds Try.pinned (OpenSpec.ofChange fnSizeOfCIDRMaskWrong)

/-- 'laws.FnNetContains': WHATEVER THE INPUT: true; the input reads as it did. -/
def fnNetContainsSpec : ChangeSpec := { name := "fnNetContains", fn := fun _ => fun
  | [d1, d2, d3] => { results := [.lit (.bool true)], args := [d1, d2, d3] }
  | _ => none }
def fnNetContainsRow : OpenClaim := { program := "ytkabdfmcflkkoaa", sum := "3fac9772ed1335fbd10496fa318a2e01e3d75679794335bfa28afd91a28a0a58", func := "lib-milestone/laws.FnNetContains", spec := "fnNetContains", apart := false }
def FnNetContainsSaid : Prop := fnNetContainsRow.holds Try.pinned (OpenSpec.ofChange fnNetContainsSpec)

/-- ITS FALSE NEIGHBOUR: 'it returns false'. Refute it at one input. -/
def fnNetContainsWrong : ChangeSpec := { name := "fnNetContains", fn := fun _ => fun
  | [d1, d2, d3] => { results := [.lit (.bool false)], args := [d1, d2, d3] }
  | _ => none }
def FnNetContainsWrongFalsely : Prop := fnNetContainsRow.holds Try.pinned (OpenSpec.ofChange fnNetContainsWrong)

/- THE SECOND FORM. 'bulk': how many values and letters a reading holds, each counted each time it is reached (what is shared counts as often as it is met; a slice's spare places count too). A statement '..UptoSaid' is the law's where the arguments, and the package variables that the reading takes, are together of bulk at most 1048576: NARROWER than '..Said'. Prove '..Said' where nothing that the law and all that it calls make is longer than what came in: it says more and counts as full. Else prove '..UptoSaid'. A law counts once. -/
mutual
def uptoBulk {H : Type} : DataW H → Nat
  | .lit (.string bytes) => bytes.length + 1
  | .lit _ => 1
  | .nil => 1
  | .ptr d => uptoBulk d + 1
  | .slice elems spare => uptoBulkAll elems + uptoBulkAll spare + 1
  | .agg parts => uptoBulkAll parts + 1
  | .iface _ d => uptoBulk d + 1
  | .map entries => uptoBulkEntries entries + 1
  | .held _ => 1
def uptoBulkAll {H : Type} : List (DataW H) → Nat
  | [] => 0
  | d :: r => uptoBulk d + uptoBulkAll r
def uptoBulkEntries {H : Type} : List (Lit × DataW H) → Nat
  | [] => 0
  | x :: r => uptoBulkEntry x + uptoBulkEntries r
def uptoBulkEntry {H : Type} : Lit × DataW H → Nat
  | (.string bytes, d) => bytes.length + uptoBulk d + 1
  | (_, d) => uptoBulk d + 1
 end
def uptoSmall : (H : Type) → List (DataW H) → Bool := fun _ ds => decide (uptoBulkAll ds ≤ 1048576)
def OpenSpec.upto (s : _root_.Go.ChangeSpec) : _root_.Go.OpenSpec := { _root_.Go.OpenSpec.ofChange s with cond := some uptoSmall }

/-- 'laws.FnCIDRMask', WHERE WHAT IT READS IS OF BULK AT MOST 1048576: true; the input reads as it did. -/
def fnCIDRMaskUptoRow : OpenClaim := { program := "ytkabdfmcflkkoaa", sum := "3fac9772ed1335fbd10496fa318a2e01e3d75679794335bfa28afd91a28a0a58", func := "lib-milestone/laws.FnCIDRMask", spec := "fnCIDRMask", apart := false, narrowed := true }
def FnCIDRMaskUptoSaid : Prop := fnCIDRMaskUptoRow.holds Try.pinned (OpenSpec.upto fnCIDRMaskSpec)

/-- 'laws.FnCIDRMaskAll', WHERE WHAT IT READS IS OF BULK AT MOST 1048576: true; the input reads as it did. -/
def fnCIDRMaskAllUptoRow : OpenClaim := { program := "ytkabdfmcflkkoaa", sum := "3fac9772ed1335fbd10496fa318a2e01e3d75679794335bfa28afd91a28a0a58", func := "lib-milestone/laws.FnCIDRMaskAll", spec := "fnCIDRMaskAll", apart := false, narrowed := true }
def FnCIDRMaskAllUptoSaid : Prop := fnCIDRMaskAllUptoRow.holds Try.pinned (OpenSpec.upto fnCIDRMaskAllSpec)

/-- 'laws.FnMaskSize', WHERE WHAT IT READS IS OF BULK AT MOST 1048576: true; the input reads as it did. -/
def fnMaskSizeUptoRow : OpenClaim := { program := "ytkabdfmcflkkoaa", sum := "3fac9772ed1335fbd10496fa318a2e01e3d75679794335bfa28afd91a28a0a58", func := "lib-milestone/laws.FnMaskSize", spec := "fnMaskSize", apart := false, narrowed := true }
def FnMaskSizeUptoSaid : Prop := fnMaskSizeUptoRow.holds Try.pinned (OpenSpec.upto fnMaskSizeSpec)

/-- 'laws.FnCIDRMaskOfSize', WHERE WHAT IT READS IS OF BULK AT MOST 1048576: true; the input reads as it did. -/
def fnCIDRMaskOfSizeUptoRow : OpenClaim := { program := "ytkabdfmcflkkoaa", sum := "3fac9772ed1335fbd10496fa318a2e01e3d75679794335bfa28afd91a28a0a58", func := "lib-milestone/laws.FnCIDRMaskOfSize", spec := "fnCIDRMaskOfSize", apart := false, narrowed := true }
def FnCIDRMaskOfSizeUptoSaid : Prop := fnCIDRMaskOfSizeUptoRow.holds Try.pinned (OpenSpec.upto fnCIDRMaskOfSizeSpec)

/-- 'laws.FnSizeOfCIDRMask', WHERE WHAT IT READS IS OF BULK AT MOST 1048576: true; the input reads as it did. -/
def fnSizeOfCIDRMaskUptoRow : OpenClaim := { program := "ytkabdfmcflkkoaa", sum := "3fac9772ed1335fbd10496fa318a2e01e3d75679794335bfa28afd91a28a0a58", func := "lib-milestone/laws.FnSizeOfCIDRMask", spec := "fnSizeOfCIDRMask", apart := false, narrowed := true }
def FnSizeOfCIDRMaskUptoSaid : Prop := fnSizeOfCIDRMaskUptoRow.holds Try.pinned (OpenSpec.upto fnSizeOfCIDRMaskSpec)

/-- 'laws.FnNetContains', WHERE WHAT IT READS IS OF BULK AT MOST 1048576: true; the input reads as it did. -/
def fnNetContainsUptoRow : OpenClaim := { program := "ytkabdfmcflkkoaa", sum := "3fac9772ed1335fbd10496fa318a2e01e3d75679794335bfa28afd91a28a0a58", func := "lib-milestone/laws.FnNetContains", spec := "fnNetContains", apart := false, narrowed := true }
def FnNetContainsUptoSaid : Prop := fnNetContainsUptoRow.holds Try.pinned (OpenSpec.upto fnNetContainsSpec)

end Rows
end Go.Proofs.Ytkabdfmcflkkoaa
