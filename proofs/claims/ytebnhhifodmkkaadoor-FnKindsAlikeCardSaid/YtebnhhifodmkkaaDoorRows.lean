/-
  NARROWER THAN 'FOR EVERY INPUT', by the rows' own cells (each row's printed sentence says how): FnEqual: laid · FnTo16: laid · FnIPv4: laid · FnToAndBack: laid · FnKindsAlike: laid.
  DERIVED. THE GIVEN ROWS OF THIS SEAT. 5 by the template 'for every input the law returns true; each argument reads behind the call as it read before'; 0 by the template 'total and deterministic' (their statements: YtebnhhifodmkkaaDoorTotals.lean).
  GIVEN WITH THE SEED: the statements are not yours to turn. If you find one false, say at which input.
  Laid BY PROGRAM, IN A SANDBOX (cutbox-rows.mjs): the forced cells as the released guide's own fill.sh prints them over the translation 842abdc871d42be8… (all of the seat's roots in one cut). By AI agents, Wed Nov 11 2026. No macro, syntax, notation, axiom, sorry.
-/
import Derived.Test.YtebnhhifodmkkaaDoorChecked
import GoSem.Claim
import GoSem.ClaimJoined
import GoSem.ClaimMapViews
import Derived.JoinedTies
import Derived.KernelRfl
namespace Go.Proofs.YtebnhhifodmkkaaDoor
/- THE CELL 'sum', in the pinned program and in every row, IS THE sha256 OF THE DUMP (.gsa) THAT YtebnhhifodmkkaaDoorProg.lean LOADS. Nothing in Lean hashes anything: it is a label: what it is worth is what the hold of that sum in a sandbox is worth. -/
noncomputable def Tryd.pinned : Pinned := { name := "ytebnhhifodmkkaadoor", sum := "842abdc871d42be8f5a7d52d4961d7b556da372121ac09f6fd4979fc6d5a0106", checked := Tryd.checked }
namespace Rows
def none {H : Type} : Left H := { results := [], args := [] }

/- WHAT THE LISTED PACKAGE-LEVEL VARIABLES READ AS WHEN THE CALL BEGINS. Each datum BY PROGRAM (the guide's laid-datum.mjs) off the statement by which the dump's own 'gosem.cut.vars' lays the variable. In a bare row this is a premise. The card (YtebnhhifodmkkaaDoorCards.lean) ties it to the program's text. -/
def laid_net_v4InV6Prefix {H : Type} : DataW H := .slice [.lit (.int .u8 0), .lit (.int .u8 0), .lit (.int .u8 0), .lit (.int .u8 0), .lit (.int .u8 0), .lit (.int .u8 0), .lit (.int .u8 0), .lit (.int .u8 0), .lit (.int .u8 0), .lit (.int .u8 0), .lit (.int .u8 255), .lit (.int .u8 255)] []

/-- 'laws.FnEqual': WHATEVER THE INPUT: true; the input reads as it did. -/
def fnEqualSpec : ChangeSpec := { name := "fnEqual", fn := fun _ => fun
  | [d1, d2] => { results := [.lit (.bool true)], args := [d1, d2] }
  | _ => none }
def fnEqualRow : OpenClaim := { program := "ytebnhhifodmkkaadoor", sum := "842abdc871d42be8f5a7d52d4961d7b556da372121ac09f6fd4979fc6d5a0106", func := "lib-milestone/laws.FnEqual", spec := "fnEqual", named := ["net.v4InV6Prefix"], apart := false, laid := [("net.v4InV6Prefix", laid_net_v4InV6Prefix)] }
def FnEqualSaid : Prop := fnEqualRow.holds Tryd.pinned (OpenSpec.ofChange fnEqualSpec)

/-- ITS FALSE NEIGHBOUR: 'it returns false'. Refute it at one input. -/
def fnEqualWrong : ChangeSpec := { name := "fnEqual", fn := fun _ => fun
  | [d1, d2] => { results := [.lit (.bool false)], args := [d1, d2] }
  | _ => none }
def FnEqualWrongFalsely : Prop := fnEqualRow.holds Tryd.pinned (OpenSpec.ofChange fnEqualWrong)

/-- 'laws.FnTo16': WHATEVER THE INPUT: true; the input reads as it did. -/
def fnTo16Spec : ChangeSpec := { name := "fnTo16", fn := fun _ => fun
  | [d] => { results := [.lit (.bool true)], args := [d] }
  | _ => none }
def fnTo16Row : OpenClaim := { program := "ytebnhhifodmkkaadoor", sum := "842abdc871d42be8f5a7d52d4961d7b556da372121ac09f6fd4979fc6d5a0106", func := "lib-milestone/laws.FnTo16", spec := "fnTo16", named := ["net.v4InV6Prefix"], apart := false, laid := [("net.v4InV6Prefix", laid_net_v4InV6Prefix)] }
def FnTo16Said : Prop := fnTo16Row.holds Tryd.pinned (OpenSpec.ofChange fnTo16Spec)

/-- ITS FALSE NEIGHBOUR: 'it returns false'. Refute it at one input. -/
def fnTo16Wrong : ChangeSpec := { name := "fnTo16", fn := fun _ => fun
  | [d] => { results := [.lit (.bool false)], args := [d] }
  | _ => none }
def FnTo16WrongFalsely : Prop := fnTo16Row.holds Tryd.pinned (OpenSpec.ofChange fnTo16Wrong)

/-- 'laws.FnIPv4': WHATEVER THE INPUT: true; the input reads as it did. -/
def fnIPv4Spec : ChangeSpec := { name := "fnIPv4", fn := fun _ => fun
  | [d1, d2, d3, d4] => { results := [.lit (.bool true)], args := [d1, d2, d3, d4] }
  | _ => none }
def fnIPv4Row : OpenClaim := { program := "ytebnhhifodmkkaadoor", sum := "842abdc871d42be8f5a7d52d4961d7b556da372121ac09f6fd4979fc6d5a0106", func := "lib-milestone/laws.FnIPv4", spec := "fnIPv4", named := ["net.v4InV6Prefix"], apart := false, laid := [("net.v4InV6Prefix", laid_net_v4InV6Prefix)] }
def FnIPv4Said : Prop := fnIPv4Row.holds Tryd.pinned (OpenSpec.ofChange fnIPv4Spec)

/-- ITS FALSE NEIGHBOUR: 'it returns false'. Refute it at one input. -/
def fnIPv4Wrong : ChangeSpec := { name := "fnIPv4", fn := fun _ => fun
  | [d1, d2, d3, d4] => { results := [.lit (.bool false)], args := [d1, d2, d3, d4] }
  | _ => none }
def FnIPv4WrongFalsely : Prop := fnIPv4Row.holds Tryd.pinned (OpenSpec.ofChange fnIPv4Wrong)

/-- 'laws.FnToAndBack': WHATEVER THE INPUT: true; the input reads as it did. -/
def fnToAndBackSpec : ChangeSpec := { name := "fnToAndBack", fn := fun _ => fun
  | [d] => { results := [.lit (.bool true)], args := [d] }
  | _ => none }
def fnToAndBackRow : OpenClaim := { program := "ytebnhhifodmkkaadoor", sum := "842abdc871d42be8f5a7d52d4961d7b556da372121ac09f6fd4979fc6d5a0106", func := "lib-milestone/laws.FnToAndBack", spec := "fnToAndBack", named := ["net.v4InV6Prefix"], apart := false, laid := [("net.v4InV6Prefix", laid_net_v4InV6Prefix)] }
def FnToAndBackSaid : Prop := fnToAndBackRow.holds Tryd.pinned (OpenSpec.ofChange fnToAndBackSpec)

/-- ITS FALSE NEIGHBOUR: 'it returns false'. Refute it at one input. -/
def fnToAndBackWrong : ChangeSpec := { name := "fnToAndBack", fn := fun _ => fun
  | [d] => { results := [.lit (.bool false)], args := [d] }
  | _ => none }
def FnToAndBackWrongFalsely : Prop := fnToAndBackRow.holds Tryd.pinned (OpenSpec.ofChange fnToAndBackWrong)

/-- 'laws.FnKindsAlike': WHATEVER THE INPUT: true; the input reads as it did. -/
def fnKindsAlikeSpec : ChangeSpec := { name := "fnKindsAlike", fn := fun _ => fun
  | [d] => { results := [.lit (.bool true)], args := [d] }
  | _ => none }
def fnKindsAlikeRow : OpenClaim := { program := "ytebnhhifodmkkaadoor", sum := "842abdc871d42be8f5a7d52d4961d7b556da372121ac09f6fd4979fc6d5a0106", func := "lib-milestone/laws.FnKindsAlike", spec := "fnKindsAlike", named := ["net.v4InV6Prefix"], apart := false, laid := [("net.v4InV6Prefix", laid_net_v4InV6Prefix)] }
def FnKindsAlikeSaid : Prop := fnKindsAlikeRow.holds Tryd.pinned (OpenSpec.ofChange fnKindsAlikeSpec)

/-- ITS FALSE NEIGHBOUR: 'it returns false'. Refute it at one input. -/
def fnKindsAlikeWrong : ChangeSpec := { name := "fnKindsAlike", fn := fun _ => fun
  | [d] => { results := [.lit (.bool false)], args := [d] }
  | _ => none }
def FnKindsAlikeWrongFalsely : Prop := fnKindsAlikeRow.holds Tryd.pinned (OpenSpec.ofChange fnKindsAlikeWrong)

/- THE SECOND FORM. 'bulk': how many values and letters a reading holds, each counted each time it is reached (what is shared counts as often as it is met; a slice's spare places count too). A statement '..UptoSaid' is the law's where the arguments, and the package variables that the reading takes, are together of bulk at most 1048576: NARROWER than '..Said'. Prove '..Said' where nothing that the law and all that it calls make is longer than what came in: it says more and counts as full. Else prove '..UptoSaid'. A law counts once. -/
mutual
def uptoBulk {H : Type} : DataW H → Nat
  | .lit (.string bytes) => bytes.length + 1
  | .lit _ => 1
  | .nil => 1
  | .ptr d => uptoBulk d + 1
  | .slice elems spare => uptoBulkAll elems + uptoBulkAll spare + 1
  | .agg parts => uptoBulkAll parts + 1
  | .iface _ d => uptoBulk d + 1
  | .map entries => uptoBulkEntries entries + 1
  | .held _ => 1
def uptoBulkAll {H : Type} : List (DataW H) → Nat
  | [] => 0
  | d :: r => uptoBulk d + uptoBulkAll r
def uptoBulkEntries {H : Type} : List (Lit × DataW H) → Nat
  | [] => 0
  | x :: r => uptoBulkEntry x + uptoBulkEntries r
def uptoBulkEntry {H : Type} : Lit × DataW H → Nat
  | (.string bytes, d) => bytes.length + uptoBulk d + 1
  | (_, d) => uptoBulk d + 1
 end
def uptoSmall : (H : Type) → List (DataW H) → Bool := fun _ ds => decide (uptoBulkAll ds ≤ 1048576)
def OpenSpec.upto (s : _root_.Go.ChangeSpec) : _root_.Go.OpenSpec := { _root_.Go.OpenSpec.ofChange s with cond := some uptoSmall }

/-- 'laws.FnEqual', WHERE WHAT IT READS IS OF BULK AT MOST 1048576: true; the input reads as it did. -/
def fnEqualUptoRow : OpenClaim := { program := "ytebnhhifodmkkaadoor", sum := "842abdc871d42be8f5a7d52d4961d7b556da372121ac09f6fd4979fc6d5a0106", func := "lib-milestone/laws.FnEqual", spec := "fnEqual", named := ["net.v4InV6Prefix"], apart := false, laid := [("net.v4InV6Prefix", laid_net_v4InV6Prefix)], narrowed := true }
def FnEqualUptoSaid : Prop := fnEqualUptoRow.holds Tryd.pinned (OpenSpec.upto fnEqualSpec)

/-- 'laws.FnTo16', WHERE WHAT IT READS IS OF BULK AT MOST 1048576: true; the input reads as it did. -/
def fnTo16UptoRow : OpenClaim := { program := "ytebnhhifodmkkaadoor", sum := "842abdc871d42be8f5a7d52d4961d7b556da372121ac09f6fd4979fc6d5a0106", func := "lib-milestone/laws.FnTo16", spec := "fnTo16", named := ["net.v4InV6Prefix"], apart := false, laid := [("net.v4InV6Prefix", laid_net_v4InV6Prefix)], narrowed := true }
def FnTo16UptoSaid : Prop := fnTo16UptoRow.holds Tryd.pinned (OpenSpec.upto fnTo16Spec)

/-- 'laws.FnIPv4', WHERE WHAT IT READS IS OF BULK AT MOST 1048576: true; the input reads as it did. -/
def fnIPv4UptoRow : OpenClaim := { program := "ytebnhhifodmkkaadoor", sum := "842abdc871d42be8f5a7d52d4961d7b556da372121ac09f6fd4979fc6d5a0106", func := "lib-milestone/laws.FnIPv4", spec := "fnIPv4", named := ["net.v4InV6Prefix"], apart := false, laid := [("net.v4InV6Prefix", laid_net_v4InV6Prefix)], narrowed := true }
def FnIPv4UptoSaid : Prop := fnIPv4UptoRow.holds Tryd.pinned (OpenSpec.upto fnIPv4Spec)

/-- 'laws.FnToAndBack', WHERE WHAT IT READS IS OF BULK AT MOST 1048576: true; the input reads as it did. -/
def fnToAndBackUptoRow : OpenClaim := { program := "ytebnhhifodmkkaadoor", sum := "842abdc871d42be8f5a7d52d4961d7b556da372121ac09f6fd4979fc6d5a0106", func := "lib-milestone/laws.FnToAndBack", spec := "fnToAndBack", named := ["net.v4InV6Prefix"], apart := false, laid := [("net.v4InV6Prefix", laid_net_v4InV6Prefix)], narrowed := true }
def FnToAndBackUptoSaid : Prop := fnToAndBackUptoRow.holds Tryd.pinned (OpenSpec.upto fnToAndBackSpec)

/-- 'laws.FnKindsAlike', WHERE WHAT IT READS IS OF BULK AT MOST 1048576: true; the input reads as it did. -/
def fnKindsAlikeUptoRow : OpenClaim := { program := "ytebnhhifodmkkaadoor", sum := "842abdc871d42be8f5a7d52d4961d7b556da372121ac09f6fd4979fc6d5a0106", func := "lib-milestone/laws.FnKindsAlike", spec := "fnKindsAlike", named := ["net.v4InV6Prefix"], apart := false, laid := [("net.v4InV6Prefix", laid_net_v4InV6Prefix)], narrowed := true }
def FnKindsAlikeUptoSaid : Prop := fnKindsAlikeUptoRow.holds Tryd.pinned (OpenSpec.upto fnKindsAlikeSpec)

end Rows
end Go.Proofs.YtebnhhifodmkkaaDoor
