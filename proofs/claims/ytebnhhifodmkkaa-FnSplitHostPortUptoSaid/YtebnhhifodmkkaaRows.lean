/-
  No cell of these rows narrows 'for every input' (looked for: loops, veiled, ifaces, maps, wideKeys, modest, calm, conditions, laid).
  DERIVED. THE GIVEN ROWS OF THIS SEAT. 7 by the template 'for every input the law returns true; each argument reads behind the call as it read before'; 0 by the template 'total and deterministic' (their statements: YtebnhhifodmkkaaTotals.lean).
  GIVEN WITH THE SEED: the statements are not yours to turn. If you find one false, say at which input.
  Laid BY PROGRAM, IN A SANDBOX (cutbox-rows.mjs): the forced cells as the released guide's own fill.sh prints them over the translation fa6031786441742c… (all of the seat's roots in one cut). By AI agents, Wed Nov 11 2026. No macro, syntax, notation, axiom, sorry.
-/
import Derived.Test.YtebnhhifodmkkaaChecked
import GoSem.Claim
import GoSem.ClaimJoined
import GoSem.ClaimMapViews
import Derived.JoinedTies
import Derived.KernelRfl
namespace Go.Proofs.Ytebnhhifodmkkaa
/- THE CELL 'sum', in the pinned program and in every row, IS THE sha256 OF THE DUMP (.gsa) THAT YtebnhhifodmkkaaProg.lean LOADS. Nothing in Lean hashes anything: it is a label: what it is worth is what the hold of that sum in a sandbox is worth. -/
noncomputable def Try.pinned : Pinned := { name := "ytebnhhifodmkkaa", sum := "fa6031786441742c3d8dd2200952d5bc5d4f6e81be42eeae77ccec1b1bd3621d", checked := Try.checked }
namespace Rows
def none {H : Type} : Left H := { results := [], args := [] }

/-- 'laws.FnJoinHostPort': WHATEVER THE INPUT: true; the input reads as it did. -/
def fnJoinHostPortSpec : ChangeSpec := { name := "fnJoinHostPort", fn := fun _ => fun
  | [d1, d2] => { results := [.lit (.bool true)], args := [d1, d2] }
  | _ => none }
def fnJoinHostPortRow : OpenClaim := { program := "ytebnhhifodmkkaa", sum := "fa6031786441742c3d8dd2200952d5bc5d4f6e81be42eeae77ccec1b1bd3621d", func := "lib-milestone/laws.FnJoinHostPort", spec := "fnJoinHostPort", inPlace := ["internal/bytealg.IndexByteString"], apart := false }
def FnJoinHostPortSaid : Prop := fnJoinHostPortRow.holds Try.pinned (OpenSpec.ofChange fnJoinHostPortSpec)

/-- ITS FALSE NEIGHBOUR: 'it returns false'. Refute it at one input. -/
def fnJoinHostPortWrong : ChangeSpec := { name := "fnJoinHostPort", fn := fun _ => fun
  | [d1, d2] => { results := [.lit (.bool false)], args := [d1, d2] }
  | _ => none }
def FnJoinHostPortWrongFalsely : Prop := fnJoinHostPortRow.holds Try.pinned (OpenSpec.ofChange fnJoinHostPortWrong)

/-- 'laws.FnMaskString': WHATEVER THE INPUT: true; the input reads as it did. -/
def fnMaskStringSpec : ChangeSpec := { name := "fnMaskString", fn := fun _ => fun
  | [d] => { results := [.lit (.bool true)], args := [d] }
  | _ => none }
def fnMaskStringRow : OpenClaim := { program := "ytebnhhifodmkkaa", sum := "fa6031786441742c3d8dd2200952d5bc5d4f6e81be42eeae77ccec1b1bd3621d", func := "lib-milestone/laws.FnMaskString", spec := "fnMaskString", apart := false }
def FnMaskStringSaid : Prop := fnMaskStringRow.holds Try.pinned (OpenSpec.ofChange fnMaskStringSpec)

/-- ITS FALSE NEIGHBOUR: 'it returns false'. Refute it at one input. -/
def fnMaskStringWrong : ChangeSpec := { name := "fnMaskString", fn := fun _ => fun
  | [d] => { results := [.lit (.bool false)], args := [d] }
  | _ => none }
def FnMaskStringWrongFalsely : Prop := fnMaskStringRow.holds Try.pinned (OpenSpec.ofChange fnMaskStringWrong)

/-- 'laws.FnMACString': WHATEVER THE INPUT: true; the input reads as it did. -/
def fnMACStringSpec : ChangeSpec := { name := "fnMACString", fn := fun _ => fun
  | [d] => { results := [.lit (.bool true)], args := [d] }
  | _ => none }
def fnMACStringRow : OpenClaim := { program := "ytebnhhifodmkkaa", sum := "fa6031786441742c3d8dd2200952d5bc5d4f6e81be42eeae77ccec1b1bd3621d", func := "lib-milestone/laws.FnMACString", spec := "fnMACString", apart := false }
def FnMACStringSaid : Prop := fnMACStringRow.holds Try.pinned (OpenSpec.ofChange fnMACStringSpec)

/-- ITS FALSE NEIGHBOUR: 'it returns false'. Refute it at one input. -/
def fnMACStringWrong : ChangeSpec := { name := "fnMACString", fn := fun _ => fun
  | [d] => { results := [.lit (.bool false)], args := [d] }
  | _ => none }
def FnMACStringWrongFalsely : Prop := fnMACStringRow.holds Try.pinned (OpenSpec.ofChange fnMACStringWrong)

/-- 'laws.FnTo4': WHATEVER THE INPUT: true; the input reads as it did. -/
def fnTo4Spec : ChangeSpec := { name := "fnTo4", fn := fun _ => fun
  | [d] => { results := [.lit (.bool true)], args := [d] }
  | _ => none }
def fnTo4Row : OpenClaim := { program := "ytebnhhifodmkkaa", sum := "fa6031786441742c3d8dd2200952d5bc5d4f6e81be42eeae77ccec1b1bd3621d", func := "lib-milestone/laws.FnTo4", spec := "fnTo4", apart := false }
def FnTo4Said : Prop := fnTo4Row.holds Try.pinned (OpenSpec.ofChange fnTo4Spec)

/-- ITS FALSE NEIGHBOUR: 'it returns false'. Refute it at one input. -/
def fnTo4Wrong : ChangeSpec := { name := "fnTo4", fn := fun _ => fun
  | [d] => { results := [.lit (.bool false)], args := [d] }
  | _ => none }
def FnTo4WrongFalsely : Prop := fnTo4Row.holds Try.pinned (OpenSpec.ofChange fnTo4Wrong)

/-- 'laws.FnKinds': WHATEVER THE INPUT: true; the input reads as it did. -/
def fnKindsSpec : ChangeSpec := { name := "fnKinds", fn := fun _ => fun
  | [d] => { results := [.lit (.bool true)], args := [d] }
  | _ => none }
def fnKindsRow : OpenClaim := { program := "ytebnhhifodmkkaa", sum := "fa6031786441742c3d8dd2200952d5bc5d4f6e81be42eeae77ccec1b1bd3621d", func := "lib-milestone/laws.FnKinds", spec := "fnKinds", apart := false }
def FnKindsSaid : Prop := fnKindsRow.holds Try.pinned (OpenSpec.ofChange fnKindsSpec)

/-- ITS FALSE NEIGHBOUR: 'it returns false'. Refute it at one input. -/
def fnKindsWrong : ChangeSpec := { name := "fnKinds", fn := fun _ => fun
  | [d] => { results := [.lit (.bool false)], args := [d] }
  | _ => none }
def FnKindsWrongFalsely : Prop := fnKindsRow.holds Try.pinned (OpenSpec.ofChange fnKindsWrong)

/-- 'laws.FnSplitHostPort': WHATEVER THE INPUT: true; the input reads as it did. -/
def fnSplitHostPortSpec : ChangeSpec := { name := "fnSplitHostPort", fn := fun _ => fun
  | [d] => { results := [.lit (.bool true)], args := [d] }
  | _ => none }
def fnSplitHostPortRow : OpenClaim := { program := "ytebnhhifodmkkaa", sum := "fa6031786441742c3d8dd2200952d5bc5d4f6e81be42eeae77ccec1b1bd3621d", func := "lib-milestone/laws.FnSplitHostPort", spec := "fnSplitHostPort", inPlace := ["internal/bytealg.IndexByteString"], unfollowed := true, recurses := true, apart := false }
def FnSplitHostPortSaid : Prop := fnSplitHostPortRow.holds Try.pinned (OpenSpec.ofChange fnSplitHostPortSpec)

/-- ITS FALSE NEIGHBOUR: 'it returns false'. Refute it at one input. -/
def fnSplitHostPortWrong : ChangeSpec := { name := "fnSplitHostPort", fn := fun _ => fun
  | [d] => { results := [.lit (.bool false)], args := [d] }
  | _ => none }
def FnSplitHostPortWrongFalsely : Prop := fnSplitHostPortRow.holds Try.pinned (OpenSpec.ofChange fnSplitHostPortWrong)

/-- 'laws.FnSplitJoined': WHATEVER THE INPUT: true; the input reads as it did. -/
def fnSplitJoinedSpec : ChangeSpec := { name := "fnSplitJoined", fn := fun _ => fun
  | [d1, d2] => { results := [.lit (.bool true)], args := [d1, d2] }
  | _ => none }
def fnSplitJoinedRow : OpenClaim := { program := "ytebnhhifodmkkaa", sum := "fa6031786441742c3d8dd2200952d5bc5d4f6e81be42eeae77ccec1b1bd3621d", func := "lib-milestone/laws.FnSplitJoined", spec := "fnSplitJoined", inPlace := ["internal/bytealg.IndexByteString"], unfollowed := true, recurses := true, apart := false }
def FnSplitJoinedSaid : Prop := fnSplitJoinedRow.holds Try.pinned (OpenSpec.ofChange fnSplitJoinedSpec)

/-- ITS FALSE NEIGHBOUR: 'it returns false'. Refute it at one input. -/
def fnSplitJoinedWrong : ChangeSpec := { name := "fnSplitJoined", fn := fun _ => fun
  | [d1, d2] => { results := [.lit (.bool false)], args := [d1, d2] }
  | _ => none }
def FnSplitJoinedWrongFalsely : Prop := fnSplitJoinedRow.holds Try.pinned (OpenSpec.ofChange fnSplitJoinedWrong)

/- THE SECOND FORM. 'bulk': how many values and letters a reading holds, each counted each time it is reached (what is shared counts as often as it is met; a slice's spare places count too). A statement '..UptoSaid' is the law's where the arguments, and the package variables that the reading takes, are together of bulk at most 1048576: NARROWER than '..Said'. Prove '..Said' where nothing that the law and all that it calls make is longer than what came in: it says more and counts as full. Else prove '..UptoSaid'. A law counts once. -/
mutual
def uptoBulk {H : Type} : DataW H → Nat
  | .lit (.string bytes) => bytes.length + 1
  | .lit _ => 1
  | .nil => 1
  | .ptr d => uptoBulk d + 1
  | .slice elems spare => uptoBulkAll elems + uptoBulkAll spare + 1
  | .agg parts => uptoBulkAll parts + 1
  | .iface _ d => uptoBulk d + 1
  | .map entries => uptoBulkEntries entries + 1
  | .held _ => 1
def uptoBulkAll {H : Type} : List (DataW H) → Nat
  | [] => 0
  | d :: r => uptoBulk d + uptoBulkAll r
def uptoBulkEntries {H : Type} : List (Lit × DataW H) → Nat
  | [] => 0
  | x :: r => uptoBulkEntry x + uptoBulkEntries r
def uptoBulkEntry {H : Type} : Lit × DataW H → Nat
  | (.string bytes, d) => bytes.length + uptoBulk d + 1
  | (_, d) => uptoBulk d + 1
 end
def uptoSmall : (H : Type) → List (DataW H) → Bool := fun _ ds => decide (uptoBulkAll ds ≤ 1048576)
def OpenSpec.upto (s : _root_.Go.ChangeSpec) : _root_.Go.OpenSpec := { _root_.Go.OpenSpec.ofChange s with cond := some uptoSmall }

/-- 'laws.FnJoinHostPort', WHERE WHAT IT READS IS OF BULK AT MOST 1048576: true; the input reads as it did. -/
def fnJoinHostPortUptoRow : OpenClaim := { program := "ytebnhhifodmkkaa", sum := "fa6031786441742c3d8dd2200952d5bc5d4f6e81be42eeae77ccec1b1bd3621d", func := "lib-milestone/laws.FnJoinHostPort", spec := "fnJoinHostPort", inPlace := ["internal/bytealg.IndexByteString"], apart := false, narrowed := true }
def FnJoinHostPortUptoSaid : Prop := fnJoinHostPortUptoRow.holds Try.pinned (OpenSpec.upto fnJoinHostPortSpec)

/-- 'laws.FnMaskString', WHERE WHAT IT READS IS OF BULK AT MOST 1048576: true; the input reads as it did. -/
def fnMaskStringUptoRow : OpenClaim := { program := "ytebnhhifodmkkaa", sum := "fa6031786441742c3d8dd2200952d5bc5d4f6e81be42eeae77ccec1b1bd3621d", func := "lib-milestone/laws.FnMaskString", spec := "fnMaskString", apart := false, narrowed := true }
def FnMaskStringUptoSaid : Prop := fnMaskStringUptoRow.holds Try.pinned (OpenSpec.upto fnMaskStringSpec)

/-- 'laws.FnMACString', WHERE WHAT IT READS IS OF BULK AT MOST 1048576: true; the input reads as it did. -/
def fnMACStringUptoRow : OpenClaim := { program := "ytebnhhifodmkkaa", sum := "fa6031786441742c3d8dd2200952d5bc5d4f6e81be42eeae77ccec1b1bd3621d", func := "lib-milestone/laws.FnMACString", spec := "fnMACString", apart := false, narrowed := true }
def FnMACStringUptoSaid : Prop := fnMACStringUptoRow.holds Try.pinned (OpenSpec.upto fnMACStringSpec)

/-- 'laws.FnTo4', WHERE WHAT IT READS IS OF BULK AT MOST 1048576: true; the input reads as it did. -/
def fnTo4UptoRow : OpenClaim := { program := "ytebnhhifodmkkaa", sum := "fa6031786441742c3d8dd2200952d5bc5d4f6e81be42eeae77ccec1b1bd3621d", func := "lib-milestone/laws.FnTo4", spec := "fnTo4", apart := false, narrowed := true }
def FnTo4UptoSaid : Prop := fnTo4UptoRow.holds Try.pinned (OpenSpec.upto fnTo4Spec)

/-- 'laws.FnKinds', WHERE WHAT IT READS IS OF BULK AT MOST 1048576: true; the input reads as it did. -/
def fnKindsUptoRow : OpenClaim := { program := "ytebnhhifodmkkaa", sum := "fa6031786441742c3d8dd2200952d5bc5d4f6e81be42eeae77ccec1b1bd3621d", func := "lib-milestone/laws.FnKinds", spec := "fnKinds", apart := false, narrowed := true }
def FnKindsUptoSaid : Prop := fnKindsUptoRow.holds Try.pinned (OpenSpec.upto fnKindsSpec)

/-- 'laws.FnSplitHostPort', WHERE WHAT IT READS IS OF BULK AT MOST 1048576: true; the input reads as it did. -/
def fnSplitHostPortUptoRow : OpenClaim := { program := "ytebnhhifodmkkaa", sum := "fa6031786441742c3d8dd2200952d5bc5d4f6e81be42eeae77ccec1b1bd3621d", func := "lib-milestone/laws.FnSplitHostPort", spec := "fnSplitHostPort", inPlace := ["internal/bytealg.IndexByteString"], unfollowed := true, recurses := true, apart := false, narrowed := true }
def FnSplitHostPortUptoSaid : Prop := fnSplitHostPortUptoRow.holds Try.pinned (OpenSpec.upto fnSplitHostPortSpec)

/-- 'laws.FnSplitJoined', WHERE WHAT IT READS IS OF BULK AT MOST 1048576: true; the input reads as it did. -/
def fnSplitJoinedUptoRow : OpenClaim := { program := "ytebnhhifodmkkaa", sum := "fa6031786441742c3d8dd2200952d5bc5d4f6e81be42eeae77ccec1b1bd3621d", func := "lib-milestone/laws.FnSplitJoined", spec := "fnSplitJoined", inPlace := ["internal/bytealg.IndexByteString"], unfollowed := true, recurses := true, apart := false, narrowed := true }
def FnSplitJoinedUptoSaid : Prop := fnSplitJoinedUptoRow.holds Try.pinned (OpenSpec.upto fnSplitJoinedSpec)

end Rows
end Go.Proofs.Ytebnhhifodmkkaa
