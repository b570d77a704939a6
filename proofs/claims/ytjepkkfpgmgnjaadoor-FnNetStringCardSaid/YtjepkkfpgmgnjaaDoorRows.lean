/-
  NARROWER THAN 'FOR EVERY INPUT', by the rows' own cells (each row's printed sentence says how): FnNetString: laid · FnRoadsContain: laid · FnMarshalTextAll: laid · FnString: laid · FnStringAll: laid · FnStringOther: laid · FnMarshalText: laid · FnRoadsString: laid · FnEqualStrings: laid.
  DERIVED. THE GIVEN ROWS OF THIS SEAT. 9 by the template 'for every input the law returns true; each argument reads behind the call as it read before'; 0 by the template 'total and deterministic' (their statements: YtjepkkfpgmgnjaaDoorTotals.lean).
  GIVEN WITH THE SEED: the statements are not yours to turn. If you find one false, say at which input.
  Laid BY PROGRAM, IN A SANDBOX (cutbox-rows.mjs): the forced cells as the released guide's own fill.sh prints them over the translation fc4de914396b8632… (all of the seat's roots in one cut). By AI agents, Wed Nov 11 2026. No macro, syntax, notation, axiom, sorry.
-/
import Derived.Test.YtjepkkfpgmgnjaaDoorChecked
import GoSem.Claim
import GoSem.ClaimJoined
import GoSem.ClaimMapViews
import Derived.JoinedTies
import Derived.KernelRfl
namespace Go.Proofs.YtjepkkfpgmgnjaaDoor
/- THE CELL 'sum', in the pinned program and in every row, IS THE sha256 OF THE DUMP (.gsa) THAT YtjepkkfpgmgnjaaDoorProg.lean LOADS. Nothing in Lean hashes anything: it is a label: what it is worth is what the hold of that sum in a sandbox is worth. -/
noncomputable def Tryd.pinned : Pinned := { name := "ytjepkkfpgmgnjaadoor", sum := "fc4de914396b86326502f9a3b7787fced2f5e094ed5504b383d7ce094c235bf2", checked := Tryd.checked }
namespace Rows
def none {H : Type} : Left H := { results := [], args := [] }

/- WHAT THE LISTED PACKAGE-LEVEL VARIABLES READ AS WHEN THE CALL BEGINS. Each datum BY PROGRAM (the guide's laid-datum.mjs) off the statement by which the dump's own 'gosem.cut.vars' lays the variable. In a bare row this is a premise. The card (YtjepkkfpgmgnjaaDoorCards.lean) ties it to the program's text. -/
def laid_math_bits_deBruijn32tab {H : Type} : DataW H := .agg [.lit (.int .u8 0), .lit (.int .u8 1), .lit (.int .u8 28), .lit (.int .u8 2), .lit (.int .u8 29), .lit (.int .u8 14), .lit (.int .u8 24), .lit (.int .u8 3), .lit (.int .u8 30), .lit (.int .u8 22), .lit (.int .u8 20), .lit (.int .u8 15), .lit (.int .u8 25), .lit (.int .u8 17), .lit (.int .u8 4), .lit (.int .u8 8), .lit (.int .u8 31), .lit (.int .u8 27), .lit (.int .u8 13), .lit (.int .u8 23), .lit (.int .u8 21), .lit (.int .u8 19), .lit (.int .u8 16), .lit (.int .u8 7), .lit (.int .u8 26), .lit (.int .u8 12), .lit (.int .u8 18), .lit (.int .u8 6), .lit (.int .u8 11), .lit (.int .u8 5), .lit (.int .u8 10), .lit (.int .u8 9)]
def laid_math_bits_deBruijn64tab {H : Type} : DataW H := .agg [.lit (.int .u8 0), .lit (.int .u8 1), .lit (.int .u8 56), .lit (.int .u8 2), .lit (.int .u8 57), .lit (.int .u8 49), .lit (.int .u8 28), .lit (.int .u8 3), .lit (.int .u8 61), .lit (.int .u8 58), .lit (.int .u8 42), .lit (.int .u8 50), .lit (.int .u8 38), .lit (.int .u8 29), .lit (.int .u8 17), .lit (.int .u8 4), .lit (.int .u8 62), .lit (.int .u8 47), .lit (.int .u8 59), .lit (.int .u8 36), .lit (.int .u8 45), .lit (.int .u8 43), .lit (.int .u8 51), .lit (.int .u8 22), .lit (.int .u8 53), .lit (.int .u8 39), .lit (.int .u8 33), .lit (.int .u8 30), .lit (.int .u8 24), .lit (.int .u8 18), .lit (.int .u8 12), .lit (.int .u8 5), .lit (.int .u8 63), .lit (.int .u8 55), .lit (.int .u8 48), .lit (.int .u8 27), .lit (.int .u8 60), .lit (.int .u8 41), .lit (.int .u8 37), .lit (.int .u8 16), .lit (.int .u8 46), .lit (.int .u8 35), .lit (.int .u8 44), .lit (.int .u8 21), .lit (.int .u8 52), .lit (.int .u8 32), .lit (.int .u8 23), .lit (.int .u8 11), .lit (.int .u8 54), .lit (.int .u8 26), .lit (.int .u8 40), .lit (.int .u8 15), .lit (.int .u8 34), .lit (.int .u8 20), .lit (.int .u8 31), .lit (.int .u8 10), .lit (.int .u8 25), .lit (.int .u8 14), .lit (.int .u8 19), .lit (.int .u8 9), .lit (.int .u8 13), .lit (.int .u8 8), .lit (.int .u8 7), .lit (.int .u8 6)]
def laid_internal_strconv_uint64pow10 {H : Type} : DataW H := .agg [.lit (.int .u64 1), .lit (.int .u64 10), .lit (.int .u64 100), .lit (.int .u64 1000), .lit (.int .u64 10000), .lit (.int .u64 100000), .lit (.int .u64 1000000), .lit (.int .u64 10000000), .lit (.int .u64 100000000), .lit (.int .u64 1000000000), .lit (.int .u64 10000000000), .lit (.int .u64 100000000000), .lit (.int .u64 1000000000000), .lit (.int .u64 10000000000000), .lit (.int .u64 100000000000000), .lit (.int .u64 1000000000000000), .lit (.int .u64 10000000000000000), .lit (.int .u64 100000000000000000), .lit (.int .u64 1000000000000000000), .lit (.int .u64 10000000000000000000)]
def laid_net_netip_z4 {H : Type} : DataW H := .agg [.ptr (.agg [.lit (.bool false), .lit (.string [])])]
def laid_net_netip_z6noz {H : Type} : DataW H := .agg [.ptr (.agg [.lit (.bool true), .lit (.string [])])]
def laid_net_netip_z0 {H : Type} : DataW H := .agg [.nil]
def laid_net_v4InV6Prefix {H : Type} : DataW H := .slice [.lit (.int .u8 0), .lit (.int .u8 0), .lit (.int .u8 0), .lit (.int .u8 0), .lit (.int .u8 0), .lit (.int .u8 0), .lit (.int .u8 0), .lit (.int .u8 0), .lit (.int .u8 0), .lit (.int .u8 0), .lit (.int .u8 255), .lit (.int .u8 255)] []

/-- 'laws.FnNetString': WHATEVER THE INPUT: true; the input reads as it did. -/
def fnNetStringSpec : ChangeSpec := { name := "fnNetString", fn := fun _ => fun
  | [d1, d2] => { results := [.lit (.bool true)], args := [d1, d2] }
  | _ => none }
def fnNetStringRow : OpenClaim := { program := "ytjepkkfpgmgnjaadoor", sum := "fc4de914396b86326502f9a3b7787fced2f5e094ed5504b383d7ce094c235bf2", func := "lib-milestone/laws.FnNetString", spec := "fnNetString", recurses := true, named := ["net/netip.z4", "net/netip.z6noz", "net/netip.z0", "internal/strconv.uint64pow10", "math/bits.deBruijn32tab", "math/bits.deBruijn64tab"], apart := false, laid := [("math/bits.deBruijn32tab", laid_math_bits_deBruijn32tab), ("math/bits.deBruijn64tab", laid_math_bits_deBruijn64tab), ("internal/strconv.uint64pow10", laid_internal_strconv_uint64pow10), ("net/netip.z4", laid_net_netip_z4), ("net/netip.z6noz", laid_net_netip_z6noz), ("net/netip.z0", laid_net_netip_z0)] }
def FnNetStringSaid : Prop := fnNetStringRow.holds Tryd.pinned (OpenSpec.ofChange fnNetStringSpec)

/-- ITS FALSE NEIGHBOUR: 'it returns false'. Refute it at one input. -/
def fnNetStringWrong : ChangeSpec := { name := "fnNetString", fn := fun _ => fun
  | [d1, d2] => { results := [.lit (.bool false)], args := [d1, d2] }
  | _ => none }
def FnNetStringWrongFalsely : Prop := fnNetStringRow.holds Tryd.pinned (OpenSpec.ofChange fnNetStringWrong)

/-- 'laws.FnRoadsContain': WHATEVER THE INPUT: true; the input reads as it did. -/
def fnRoadsContainSpec : ChangeSpec := { name := "fnRoadsContain", fn := fun _ => fun
  | [d1, d2, d3] => { results := [.lit (.bool true)], args := [d1, d2, d3] }
  | _ => none }
def fnRoadsContainRow : OpenClaim := { program := "ytjepkkfpgmgnjaadoor", sum := "fc4de914396b86326502f9a3b7787fced2f5e094ed5504b383d7ce094c235bf2", func := "lib-milestone/laws.FnRoadsContain", spec := "fnRoadsContain", named := ["net.v4InV6Prefix", "net/netip.z4", "net/netip.z6noz", "net/netip.z0"], apart := false, laid := [("net/netip.z4", laid_net_netip_z4), ("net/netip.z6noz", laid_net_netip_z6noz), ("net.v4InV6Prefix", laid_net_v4InV6Prefix), ("net/netip.z0", laid_net_netip_z0)] }
def FnRoadsContainSaid : Prop := fnRoadsContainRow.holds Tryd.pinned (OpenSpec.ofChange fnRoadsContainSpec)

/-- ITS FALSE NEIGHBOUR: 'it returns false'. Refute it at one input. -/
def fnRoadsContainWrong : ChangeSpec := { name := "fnRoadsContain", fn := fun _ => fun
  | [d1, d2, d3] => { results := [.lit (.bool false)], args := [d1, d2, d3] }
  | _ => none }
def FnRoadsContainWrongFalsely : Prop := fnRoadsContainRow.holds Tryd.pinned (OpenSpec.ofChange fnRoadsContainWrong)

/-- 'laws.FnMarshalTextAll': WHATEVER THE INPUT: true; the input reads as it did. -/
def fnMarshalTextAllSpec : ChangeSpec := { name := "fnMarshalTextAll", fn := fun _ => fun
  | [d] => { results := [.lit (.bool true)], args := [d] }
  | _ => none }
def fnMarshalTextAllRow : OpenClaim := { program := "ytjepkkfpgmgnjaadoor", sum := "fc4de914396b86326502f9a3b7787fced2f5e094ed5504b383d7ce094c235bf2", func := "lib-milestone/laws.FnMarshalTextAll", spec := "fnMarshalTextAll", named := ["net/netip.z4", "net/netip.z6noz", "net/netip.z0"], apart := false, laid := [("net/netip.z4", laid_net_netip_z4), ("net/netip.z6noz", laid_net_netip_z6noz), ("net/netip.z0", laid_net_netip_z0)] }
def FnMarshalTextAllSaid : Prop := fnMarshalTextAllRow.holds Tryd.pinned (OpenSpec.ofChange fnMarshalTextAllSpec)

/-- ITS FALSE NEIGHBOUR: 'it returns false'. Refute it at one input. -/
def fnMarshalTextAllWrong : ChangeSpec := { name := "fnMarshalTextAll", fn := fun _ => fun
  | [d] => { results := [.lit (.bool false)], args := [d] }
  | _ => none }
def FnMarshalTextAllWrongFalsely : Prop := fnMarshalTextAllRow.holds Tryd.pinned (OpenSpec.ofChange fnMarshalTextAllWrong)

/-- 'laws.FnString': WHATEVER THE INPUT: true; the input reads as it did. -/
def fnStringSpec : ChangeSpec := { name := "fnString", fn := fun _ => fun
  | [d] => { results := [.lit (.bool true)], args := [d] }
  | _ => none }
def fnStringRow : OpenClaim := { program := "ytjepkkfpgmgnjaadoor", sum := "fc4de914396b86326502f9a3b7787fced2f5e094ed5504b383d7ce094c235bf2", func := "lib-milestone/laws.FnString", spec := "fnString", recurses := true, named := ["net/netip.z4", "net/netip.z6noz", "net/netip.z0"], apart := false, laid := [("net/netip.z4", laid_net_netip_z4), ("net/netip.z6noz", laid_net_netip_z6noz), ("net/netip.z0", laid_net_netip_z0)] }
def FnStringSaid : Prop := fnStringRow.holds Tryd.pinned (OpenSpec.ofChange fnStringSpec)

/-- ITS FALSE NEIGHBOUR: 'it returns false'. Refute it at one input. -/
def fnStringWrong : ChangeSpec := { name := "fnString", fn := fun _ => fun
  | [d] => { results := [.lit (.bool false)], args := [d] }
  | _ => none }
def FnStringWrongFalsely : Prop := fnStringRow.holds Tryd.pinned (OpenSpec.ofChange fnStringWrong)

/-- 'laws.FnStringAll': WHATEVER THE INPUT: true; the input reads as it did. -/
def fnStringAllSpec : ChangeSpec := { name := "fnStringAll", fn := fun _ => fun
  | [d] => { results := [.lit (.bool true)], args := [d] }
  | _ => none }
def fnStringAllRow : OpenClaim := { program := "ytjepkkfpgmgnjaadoor", sum := "fc4de914396b86326502f9a3b7787fced2f5e094ed5504b383d7ce094c235bf2", func := "lib-milestone/laws.FnStringAll", spec := "fnStringAll", recurses := true, named := ["net/netip.z4", "net/netip.z6noz", "net/netip.z0"], apart := false, laid := [("net/netip.z4", laid_net_netip_z4), ("net/netip.z6noz", laid_net_netip_z6noz), ("net/netip.z0", laid_net_netip_z0)] }
def FnStringAllSaid : Prop := fnStringAllRow.holds Tryd.pinned (OpenSpec.ofChange fnStringAllSpec)

/-- ITS FALSE NEIGHBOUR: 'it returns false'. Refute it at one input. -/
def fnStringAllWrong : ChangeSpec := { name := "fnStringAll", fn := fun _ => fun
  | [d] => { results := [.lit (.bool false)], args := [d] }
  | _ => none }
def FnStringAllWrongFalsely : Prop := fnStringAllRow.holds Tryd.pinned (OpenSpec.ofChange fnStringAllWrong)

/-- 'laws.FnStringOther': WHATEVER THE INPUT: true; the input reads as it did. -/
def fnStringOtherSpec : ChangeSpec := { name := "fnStringOther", fn := fun _ => fun
  | [d] => { results := [.lit (.bool true)], args := [d] }
  | _ => none }
def fnStringOtherRow : OpenClaim := { program := "ytjepkkfpgmgnjaadoor", sum := "fc4de914396b86326502f9a3b7787fced2f5e094ed5504b383d7ce094c235bf2", func := "lib-milestone/laws.FnStringOther", spec := "fnStringOther", named := ["net/netip.z4", "net/netip.z6noz", "net/netip.z0"], apart := false, laid := [("net/netip.z4", laid_net_netip_z4), ("net/netip.z6noz", laid_net_netip_z6noz), ("net/netip.z0", laid_net_netip_z0)] }
def FnStringOtherSaid : Prop := fnStringOtherRow.holds Tryd.pinned (OpenSpec.ofChange fnStringOtherSpec)

/-- ITS FALSE NEIGHBOUR: 'it returns false'. Refute it at one input. -/
def fnStringOtherWrong : ChangeSpec := { name := "fnStringOther", fn := fun _ => fun
  | [d] => { results := [.lit (.bool false)], args := [d] }
  | _ => none }
def FnStringOtherWrongFalsely : Prop := fnStringOtherRow.holds Tryd.pinned (OpenSpec.ofChange fnStringOtherWrong)

/-- 'laws.FnMarshalText': WHATEVER THE INPUT: true; the input reads as it did. -/
def fnMarshalTextSpec : ChangeSpec := { name := "fnMarshalText", fn := fun _ => fun
  | [d] => { results := [.lit (.bool true)], args := [d] }
  | _ => none }
def fnMarshalTextRow : OpenClaim := { program := "ytjepkkfpgmgnjaadoor", sum := "fc4de914396b86326502f9a3b7787fced2f5e094ed5504b383d7ce094c235bf2", func := "lib-milestone/laws.FnMarshalText", spec := "fnMarshalText", recurses := true, named := ["net/netip.z4", "net/netip.z6noz", "net/netip.z0"], apart := false, laid := [("net/netip.z4", laid_net_netip_z4), ("net/netip.z6noz", laid_net_netip_z6noz), ("net/netip.z0", laid_net_netip_z0)] }
def FnMarshalTextSaid : Prop := fnMarshalTextRow.holds Tryd.pinned (OpenSpec.ofChange fnMarshalTextSpec)

/-- ITS FALSE NEIGHBOUR: 'it returns false'. Refute it at one input. -/
def fnMarshalTextWrong : ChangeSpec := { name := "fnMarshalText", fn := fun _ => fun
  | [d] => { results := [.lit (.bool false)], args := [d] }
  | _ => none }
def FnMarshalTextWrongFalsely : Prop := fnMarshalTextRow.holds Tryd.pinned (OpenSpec.ofChange fnMarshalTextWrong)

/-- 'laws.FnRoadsString': WHATEVER THE INPUT: true; the input reads as it did. -/
def fnRoadsStringSpec : ChangeSpec := { name := "fnRoadsString", fn := fun _ => fun
  | [d] => { results := [.lit (.bool true)], args := [d] }
  | _ => none }
def fnRoadsStringRow : OpenClaim := { program := "ytjepkkfpgmgnjaadoor", sum := "fc4de914396b86326502f9a3b7787fced2f5e094ed5504b383d7ce094c235bf2", func := "lib-milestone/laws.FnRoadsString", spec := "fnRoadsString", named := ["net/netip.z4", "net/netip.z6noz", "net/netip.z0"], apart := false, laid := [("net/netip.z4", laid_net_netip_z4), ("net/netip.z6noz", laid_net_netip_z6noz), ("net/netip.z0", laid_net_netip_z0)] }
def FnRoadsStringSaid : Prop := fnRoadsStringRow.holds Tryd.pinned (OpenSpec.ofChange fnRoadsStringSpec)

/-- ITS FALSE NEIGHBOUR: 'it returns false'. Refute it at one input. -/
def fnRoadsStringWrong : ChangeSpec := { name := "fnRoadsString", fn := fun _ => fun
  | [d] => { results := [.lit (.bool false)], args := [d] }
  | _ => none }
def FnRoadsStringWrongFalsely : Prop := fnRoadsStringRow.holds Tryd.pinned (OpenSpec.ofChange fnRoadsStringWrong)

/-- 'laws.FnEqualStrings': WHATEVER THE INPUT: true; the input reads as it did. -/
def fnEqualStringsSpec : ChangeSpec := { name := "fnEqualStrings", fn := fun _ => fun
  | [d1, d2] => { results := [.lit (.bool true)], args := [d1, d2] }
  | _ => none }
def fnEqualStringsRow : OpenClaim := { program := "ytjepkkfpgmgnjaadoor", sum := "fc4de914396b86326502f9a3b7787fced2f5e094ed5504b383d7ce094c235bf2", func := "lib-milestone/laws.FnEqualStrings", spec := "fnEqualStrings", named := ["net.v4InV6Prefix", "net/netip.z4", "net/netip.z6noz", "net/netip.z0"], apart := false, laid := [("net/netip.z4", laid_net_netip_z4), ("net/netip.z6noz", laid_net_netip_z6noz), ("net.v4InV6Prefix", laid_net_v4InV6Prefix), ("net/netip.z0", laid_net_netip_z0)] }
def FnEqualStringsSaid : Prop := fnEqualStringsRow.holds Tryd.pinned (OpenSpec.ofChange fnEqualStringsSpec)

/-- ITS FALSE NEIGHBOUR: 'it returns false'. Refute it at one input. -/
def fnEqualStringsWrong : ChangeSpec := { name := "fnEqualStrings", fn := fun _ => fun
  | [d1, d2] => { results := [.lit (.bool false)], args := [d1, d2] }
  | _ => none }
def FnEqualStringsWrongFalsely : Prop := fnEqualStringsRow.holds Tryd.pinned (OpenSpec.ofChange fnEqualStringsWrong)

/- THE SECOND FORM. 'bulk': how many values and letters a reading holds, each counted each time it is reached (what is shared counts as often as it is met; a slice's spare places count too). A statement '..UptoSaid' is the law's where the arguments, and the package variables that the reading takes, are together of bulk at most 1048576: NARROWER than '..Said'. Prove '..Said' where nothing that the law and all that it calls make is longer than what came in: it says more and counts as full. Else prove '..UptoSaid'. A law counts once. -/
mutual
def uptoBulk {H : Type} : DataW H → Nat
  | .lit (.string bytes) => bytes.length + 1
  | .lit _ => 1
  | .nil => 1
  | .ptr d => uptoBulk d + 1
  | .slice elems spare => uptoBulkAll elems + uptoBulkAll spare + 1
  | .agg parts => uptoBulkAll parts + 1
  | .iface _ d => uptoBulk d + 1
  | .map entries => uptoBulkEntries entries + 1
  | .held _ => 1
def uptoBulkAll {H : Type} : List (DataW H) → Nat
  | [] => 0
  | d :: r => uptoBulk d + uptoBulkAll r
def uptoBulkEntries {H : Type} : List (Lit × DataW H) → Nat
  | [] => 0
  | x :: r => uptoBulkEntry x + uptoBulkEntries r
def uptoBulkEntry {H : Type} : Lit × DataW H → Nat
  | (.string bytes, d) => bytes.length + uptoBulk d + 1
  | (_, d) => uptoBulk d + 1
 end
def uptoSmall : (H : Type) → List (DataW H) → Bool := fun _ ds => decide (uptoBulkAll ds ≤ 1048576)
def OpenSpec.upto (s : _root_.Go.ChangeSpec) : _root_.Go.OpenSpec := { _root_.Go.OpenSpec.ofChange s with cond := some uptoSmall }

/-- 'laws.FnNetString', WHERE WHAT IT READS IS OF BULK AT MOST 1048576: true; the input reads as it did. -/
def fnNetStringUptoRow : OpenClaim := { program := "ytjepkkfpgmgnjaadoor", sum := "fc4de914396b86326502f9a3b7787fced2f5e094ed5504b383d7ce094c235bf2", func := "lib-milestone/laws.FnNetString", spec := "fnNetString", recurses := true, named := ["net/netip.z4", "net/netip.z6noz", "net/netip.z0", "internal/strconv.uint64pow10", "math/bits.deBruijn32tab", "math/bits.deBruijn64tab"], apart := false, laid := [("math/bits.deBruijn32tab", laid_math_bits_deBruijn32tab), ("math/bits.deBruijn64tab", laid_math_bits_deBruijn64tab), ("internal/strconv.uint64pow10", laid_internal_strconv_uint64pow10), ("net/netip.z4", laid_net_netip_z4), ("net/netip.z6noz", laid_net_netip_z6noz), ("net/netip.z0", laid_net_netip_z0)], narrowed := true }
def FnNetStringUptoSaid : Prop := fnNetStringUptoRow.holds Tryd.pinned (OpenSpec.upto fnNetStringSpec)

/-- 'laws.FnRoadsContain', WHERE WHAT IT READS IS OF BULK AT MOST 1048576: true; the input reads as it did. -/
def fnRoadsContainUptoRow : OpenClaim := { program := "ytjepkkfpgmgnjaadoor", sum := "fc4de914396b86326502f9a3b7787fced2f5e094ed5504b383d7ce094c235bf2", func := "lib-milestone/laws.FnRoadsContain", spec := "fnRoadsContain", named := ["net.v4InV6Prefix", "net/netip.z4", "net/netip.z6noz", "net/netip.z0"], apart := false, laid := [("net/netip.z4", laid_net_netip_z4), ("net/netip.z6noz", laid_net_netip_z6noz), ("net.v4InV6Prefix", laid_net_v4InV6Prefix), ("net/netip.z0", laid_net_netip_z0)], narrowed := true }
def FnRoadsContainUptoSaid : Prop := fnRoadsContainUptoRow.holds Tryd.pinned (OpenSpec.upto fnRoadsContainSpec)

/-- 'laws.FnMarshalTextAll', WHERE WHAT IT READS IS OF BULK AT MOST 1048576: true; the input reads as it did. -/
def fnMarshalTextAllUptoRow : OpenClaim := { program := "ytjepkkfpgmgnjaadoor", sum := "fc4de914396b86326502f9a3b7787fced2f5e094ed5504b383d7ce094c235bf2", func := "lib-milestone/laws.FnMarshalTextAll", spec := "fnMarshalTextAll", named := ["net/netip.z4", "net/netip.z6noz", "net/netip.z0"], apart := false, laid := [("net/netip.z4", laid_net_netip_z4), ("net/netip.z6noz", laid_net_netip_z6noz), ("net/netip.z0", laid_net_netip_z0)], narrowed := true }
def FnMarshalTextAllUptoSaid : Prop := fnMarshalTextAllUptoRow.holds Tryd.pinned (OpenSpec.upto fnMarshalTextAllSpec)

/-- 'laws.FnString', WHERE WHAT IT READS IS OF BULK AT MOST 1048576: true; the input reads as it did. -/
def fnStringUptoRow : OpenClaim := { program := "ytjepkkfpgmgnjaadoor", sum := "fc4de914396b86326502f9a3b7787fced2f5e094ed5504b383d7ce094c235bf2", func := "lib-milestone/laws.FnString", spec := "fnString", recurses := true, named := ["net/netip.z4", "net/netip.z6noz", "net/netip.z0"], apart := false, laid := [("net/netip.z4", laid_net_netip_z4), ("net/netip.z6noz", laid_net_netip_z6noz), ("net/netip.z0", laid_net_netip_z0)], narrowed := true }
def FnStringUptoSaid : Prop := fnStringUptoRow.holds Tryd.pinned (OpenSpec.upto fnStringSpec)

/-- 'laws.FnStringAll', WHERE WHAT IT READS IS OF BULK AT MOST 1048576: true; the input reads as it did. -/
def fnStringAllUptoRow : OpenClaim := { program := "ytjepkkfpgmgnjaadoor", sum := "fc4de914396b86326502f9a3b7787fced2f5e094ed5504b383d7ce094c235bf2", func := "lib-milestone/laws.FnStringAll", spec := "fnStringAll", recurses := true, named := ["net/netip.z4", "net/netip.z6noz", "net/netip.z0"], apart := false, laid := [("net/netip.z4", laid_net_netip_z4), ("net/netip.z6noz", laid_net_netip_z6noz), ("net/netip.z0", laid_net_netip_z0)], narrowed := true }
def FnStringAllUptoSaid : Prop := fnStringAllUptoRow.holds Tryd.pinned (OpenSpec.upto fnStringAllSpec)

/-- 'laws.FnStringOther', WHERE WHAT IT READS IS OF BULK AT MOST 1048576: true; the input reads as it did. -/
def fnStringOtherUptoRow : OpenClaim := { program := "ytjepkkfpgmgnjaadoor", sum := "fc4de914396b86326502f9a3b7787fced2f5e094ed5504b383d7ce094c235bf2", func := "lib-milestone/laws.FnStringOther", spec := "fnStringOther", named := ["net/netip.z4", "net/netip.z6noz", "net/netip.z0"], apart := false, laid := [("net/netip.z4", laid_net_netip_z4), ("net/netip.z6noz", laid_net_netip_z6noz), ("net/netip.z0", laid_net_netip_z0)], narrowed := true }
def FnStringOtherUptoSaid : Prop := fnStringOtherUptoRow.holds Tryd.pinned (OpenSpec.upto fnStringOtherSpec)

/-- 'laws.FnMarshalText', WHERE WHAT IT READS IS OF BULK AT MOST 1048576: true; the input reads as it did. -/
def fnMarshalTextUptoRow : OpenClaim := { program := "ytjepkkfpgmgnjaadoor", sum := "fc4de914396b86326502f9a3b7787fced2f5e094ed5504b383d7ce094c235bf2", func := "lib-milestone/laws.FnMarshalText", spec := "fnMarshalText", recurses := true, named := ["net/netip.z4", "net/netip.z6noz", "net/netip.z0"], apart := false, laid := [("net/netip.z4", laid_net_netip_z4), ("net/netip.z6noz", laid_net_netip_z6noz), ("net/netip.z0", laid_net_netip_z0)], narrowed := true }
def FnMarshalTextUptoSaid : Prop := fnMarshalTextUptoRow.holds Tryd.pinned (OpenSpec.upto fnMarshalTextSpec)

/-- 'laws.FnRoadsString', WHERE WHAT IT READS IS OF BULK AT MOST 1048576: true; the input reads as it did. -/
def fnRoadsStringUptoRow : OpenClaim := { program := "ytjepkkfpgmgnjaadoor", sum := "fc4de914396b86326502f9a3b7787fced2f5e094ed5504b383d7ce094c235bf2", func := "lib-milestone/laws.FnRoadsString", spec := "fnRoadsString", named := ["net/netip.z4", "net/netip.z6noz", "net/netip.z0"], apart := false, laid := [("net/netip.z4", laid_net_netip_z4), ("net/netip.z6noz", laid_net_netip_z6noz), ("net/netip.z0", laid_net_netip_z0)], narrowed := true }
def FnRoadsStringUptoSaid : Prop := fnRoadsStringUptoRow.holds Tryd.pinned (OpenSpec.upto fnRoadsStringSpec)

/-- 'laws.FnEqualStrings', WHERE WHAT IT READS IS OF BULK AT MOST 1048576: true; the input reads as it did. -/
def fnEqualStringsUptoRow : OpenClaim := { program := "ytjepkkfpgmgnjaadoor", sum := "fc4de914396b86326502f9a3b7787fced2f5e094ed5504b383d7ce094c235bf2", func := "lib-milestone/laws.FnEqualStrings", spec := "fnEqualStrings", named := ["net.v4InV6Prefix", "net/netip.z4", "net/netip.z6noz", "net/netip.z0"], apart := false, laid := [("net/netip.z4", laid_net_netip_z4), ("net/netip.z6noz", laid_net_netip_z6noz), ("net.v4InV6Prefix", laid_net_v4InV6Prefix), ("net/netip.z0", laid_net_netip_z0)], narrowed := true }
def FnEqualStringsUptoSaid : Prop := fnEqualStringsUptoRow.holds Tryd.pinned (OpenSpec.upto fnEqualStringsSpec)

end Rows
end Go.Proofs.YtjepkkfpgmgnjaaDoor
