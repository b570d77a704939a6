/-
  No cell of these rows narrows 'for every input' (looked for: loops, veiled, ifaces, maps, wideKeys, modest, calm, conditions, laid).
  DERIVED. THE GIVEN ROWS OF THIS SEAT. 4 by the template 'for every input the law returns true; each argument reads behind the call as it read before'; 0 by the template 'total and deterministic' (their statements: YtemfbjkcemhkjaaTotals.lean).
  GIVEN WITH THE SEED: the statements are not yours to turn. If you find one false, say at which input.
  Laid BY PROGRAM, IN A SANDBOX (cutbox-rows.mjs): the forced cells as the released guide's own fill.sh prints them over the translation f41e50d81cd45341… (all of the seat's roots in one cut). By AI agents, Wed Nov 11 2026. No macro, syntax, notation, axiom, sorry.
-/
import Derived.Test.YtemfbjkcemhkjaaChecked
import GoSem.Claim
import GoSem.ClaimJoined
import GoSem.ClaimMapViews
import Derived.JoinedTies
import Derived.KernelRfl
namespace Go.Proofs.Ytemfbjkcemhkjaa
/- THE CELL 'sum', in the pinned program and in every row, IS THE sha256 OF THE DUMP (.gsa) THAT YtemfbjkcemhkjaaProg.lean LOADS. Nothing in Lean hashes anything: it is a label: what it is worth is what the hold of that sum in a sandbox is worth. -/
noncomputable def Try.pinned : Pinned := { name := "ytemfbjkcemhkjaa", sum := "f41e50d81cd45341d71246ef85ac8cc48274081a200c6b63d732d94afe707c72", checked := Try.checked }
namespace Rows
def none {H : Type} : Left H := { results := [], args := [] }

/-- 'laws.FnMACForms': WHATEVER THE INPUT: true; the input reads as it did. -/
def fnMACFormsSpec : ChangeSpec := { name := "fnMACForms", fn := fun _ => fun
  | [d1, d2] => { results := [.lit (.bool true)], args := [d1, d2] }
  | _ => none }
def fnMACFormsRow : OpenClaim := { program := "ytemfbjkcemhkjaa", sum := "f41e50d81cd45341d71246ef85ac8cc48274081a200c6b63d732d94afe707c72", func := "lib-milestone/laws.FnMACForms", spec := "fnMACForms", apart := false }
def FnMACFormsSaid : Prop := fnMACFormsRow.holds Try.pinned (OpenSpec.ofChange fnMACFormsSpec)

/-- ITS FALSE NEIGHBOUR: 'it returns false'. Refute it at one input. -/
def fnMACFormsWrong : ChangeSpec := { name := "fnMACForms", fn := fun _ => fun
  | [d1, d2] => { results := [.lit (.bool false)], args := [d1, d2] }
  | _ => none }
def FnMACFormsWrongFalsely : Prop := fnMACFormsRow.holds Try.pinned (OpenSpec.ofChange fnMACFormsWrong)

/-- 'laws.FnParseMAC': WHATEVER THE INPUT: true; the input reads as it did. -/
def fnParseMACSpec : ChangeSpec := { name := "fnParseMAC", fn := fun _ => fun
  | [d] => { results := [.lit (.bool true)], args := [d] }
  | _ => none }
def fnParseMACRow : OpenClaim := { program := "ytemfbjkcemhkjaa", sum := "f41e50d81cd45341d71246ef85ac8cc48274081a200c6b63d732d94afe707c72", func := "lib-milestone/laws.FnParseMAC", spec := "fnParseMAC", apart := false }
def FnParseMACSaid : Prop := fnParseMACRow.holds Try.pinned (OpenSpec.ofChange fnParseMACSpec)

/-- ITS FALSE NEIGHBOUR: 'it returns false'. Refute it at one input. -/
def fnParseMACWrong : ChangeSpec := { name := "fnParseMAC", fn := fun _ => fun
  | [d] => { results := [.lit (.bool false)], args := [d] }
  | _ => none }
def FnParseMACWrongFalsely : Prop := fnParseMACRow.holds Try.pinned (OpenSpec.ofChange fnParseMACWrong)

/-- 'laws.FnParseMACAll': WHATEVER THE INPUT: true; the input reads as it did. -/
def fnParseMACAllSpec : ChangeSpec := { name := "fnParseMACAll", fn := fun _ => fun
  | [d] => { results := [.lit (.bool true)], args := [d] }
  | _ => none }
def fnParseMACAllRow : OpenClaim := { program := "ytemfbjkcemhkjaa", sum := "f41e50d81cd45341d71246ef85ac8cc48274081a200c6b63d732d94afe707c72", func := "lib-milestone/laws.FnParseMACAll", spec := "fnParseMACAll", apart := false }
def FnParseMACAllSaid : Prop := fnParseMACAllRow.holds Try.pinned (OpenSpec.ofChange fnParseMACAllSpec)

/-- ITS FALSE NEIGHBOUR: 'it returns false'. Refute it at one input. -/
def fnParseMACAllWrong : ChangeSpec := { name := "fnParseMACAll", fn := fun _ => fun
  | [d] => { results := [.lit (.bool false)], args := [d] }
  | _ => none }
def FnParseMACAllWrongFalsely : Prop := fnParseMACAllRow.holds Try.pinned (OpenSpec.ofChange fnParseMACAllWrong)

/-- 'laws.FnMACRoundTrip': WHATEVER THE INPUT: true; the input reads as it did. -/
def fnMACRoundTripSpec : ChangeSpec := { name := "fnMACRoundTrip", fn := fun _ => fun
  | [d] => { results := [.lit (.bool true)], args := [d] }
  | _ => none }
def fnMACRoundTripRow : OpenClaim := { program := "ytemfbjkcemhkjaa", sum := "f41e50d81cd45341d71246ef85ac8cc48274081a200c6b63d732d94afe707c72", func := "lib-milestone/laws.FnMACRoundTrip", spec := "fnMACRoundTrip", apart := false }
def FnMACRoundTripSaid : Prop := fnMACRoundTripRow.holds Try.pinned (OpenSpec.ofChange fnMACRoundTripSpec)

/-- ITS FALSE NEIGHBOUR: 'it returns false'. Refute it at one input. -/
def fnMACRoundTripWrong : ChangeSpec := { name := "fnMACRoundTrip", fn := fun _ => fun
  | [d] => { results := [.lit (.bool false)], args := [d] }
  | _ => none }
def FnMACRoundTripWrongFalsely : Prop := fnMACRoundTripRow.holds Try.pinned (OpenSpec.ofChange fnMACRoundTripWrong)

/- THE SECOND FORM. 'bulk': how many values and letters a reading holds, each counted each time it is reached (what is shared counts as often as it is met; a slice's spare places count too). A statement '..UptoSaid' is the law's where the arguments, and the package variables that the reading takes, are together of bulk at most 1048576: NARROWER than '..Said'. Prove '..Said' where nothing that the law and all that it calls make is longer than what came in: it says more and counts as full. Else prove '..UptoSaid'. A law counts once. -/
mutual
def uptoBulk {H : Type} : DataW H → Nat
  | .lit (.string bytes) => bytes.length + 1
  | .lit _ => 1
  | .nil => 1
  | .ptr d => uptoBulk d + 1
  | .slice elems spare => uptoBulkAll elems + uptoBulkAll spare + 1
  | .agg parts => uptoBulkAll parts + 1
  | .iface _ d => uptoBulk d + 1
  | .map entries => uptoBulkEntries entries + 1
  | .held _ => 1
def uptoBulkAll {H : Type} : List (DataW H) → Nat
  | [] => 0
  | d :: r => uptoBulk d + uptoBulkAll r
def uptoBulkEntries {H : Type} : List (Lit × DataW H) → Nat
  | [] => 0
  | x :: r => uptoBulkEntry x + uptoBulkEntries r
def uptoBulkEntry {H : Type} : Lit × DataW H → Nat
  | (.string bytes, d) => bytes.length + uptoBulk d + 1
  | (_, d) => uptoBulk d + 1
 end
def uptoSmall : (H : Type) → List (DataW H) → Bool := fun _ ds => decide (uptoBulkAll ds ≤ 1048576)
def OpenSpec.upto (s : _root_.Go.ChangeSpec) : _root_.Go.OpenSpec := { _root_.Go.OpenSpec.ofChange s with cond := some uptoSmall }

/-- 'laws.FnMACForms', WHERE WHAT IT READS IS OF BULK AT MOST 1048576: true; the input reads as it did. -/
def fnMACFormsUptoRow : OpenClaim := { program := "ytemfbjkcemhkjaa", sum := "f41e50d81cd45341d71246ef85ac8cc48274081a200c6b63d732d94afe707c72", func := "lib-milestone/laws.FnMACForms", spec := "fnMACForms", apart := false, narrowed := true }
def FnMACFormsUptoSaid : Prop := fnMACFormsUptoRow.holds Try.pinned (OpenSpec.upto fnMACFormsSpec)

/-- 'laws.FnParseMAC', WHERE WHAT IT READS IS OF BULK AT MOST 1048576: true; the input reads as it did. -/
def fnParseMACUptoRow : OpenClaim := { program := "ytemfbjkcemhkjaa", sum := "f41e50d81cd45341d71246ef85ac8cc48274081a200c6b63d732d94afe707c72", func := "lib-milestone/laws.FnParseMAC", spec := "fnParseMAC", apart := false, narrowed := true }
def FnParseMACUptoSaid : Prop := fnParseMACUptoRow.holds Try.pinned (OpenSpec.upto fnParseMACSpec)

/-- 'laws.FnParseMACAll', WHERE WHAT IT READS IS OF BULK AT MOST 1048576: true; the input reads as it did. -/
def fnParseMACAllUptoRow : OpenClaim := { program := "ytemfbjkcemhkjaa", sum := "f41e50d81cd45341d71246ef85ac8cc48274081a200c6b63d732d94afe707c72", func := "lib-milestone/laws.FnParseMACAll", spec := "fnParseMACAll", apart := false, narrowed := true }
def FnParseMACAllUptoSaid : Prop := fnParseMACAllUptoRow.holds Try.pinned (OpenSpec.upto fnParseMACAllSpec)

/-- 'laws.FnMACRoundTrip', WHERE WHAT IT READS IS OF BULK AT MOST 1048576: true; the input reads as it did. -/
def fnMACRoundTripUptoRow : OpenClaim := { program := "ytemfbjkcemhkjaa", sum := "f41e50d81cd45341d71246ef85ac8cc48274081a200c6b63d732d94afe707c72", func := "lib-milestone/laws.FnMACRoundTrip", spec := "fnMACRoundTrip", apart := false, narrowed := true }
def FnMACRoundTripUptoSaid : Prop := fnMACRoundTripUptoRow.holds Try.pinned (OpenSpec.upto fnMACRoundTripSpec)

end Rows
end Go.Proofs.Ytemfbjkcemhkjaa
