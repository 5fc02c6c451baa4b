/-
  NARROWER THAN 'FOR EVERY INPUT', by the rows' own cells (each row's printed sentence says how): FnSemverPre: laid · FnSemverPreInVersion: laid · FnSemverMetaFree: laid · FnSemverTildeHolds: laid · FnSemverTildeWindow: laid · FnSemverTermMeta: laid · FnSemverTermOpposite: laid · FnSemverTermPartition: laid · FnSemverShut: laid · FnSemverImplies: laid · FnSemverTermsDistribute: laid · FnSemverIncMinor: laid.
  DERIVED. THE GIVEN ROWS OF THIS SEAT. 12 by the template 'for every input the law returns true; each argument reads behind the call as it read before'; 0 by the template 'total and deterministic' (their statements: YtdlpcfhhpjjjmaaDoorTotals.lean).
  GIVEN WITH THE SEED: the statements are not yours to turn. If you find one false, say at which input.
  Laid BY PROGRAM, IN A SANDBOX (cutbox-rows.mjs): the forced cells as the released guide's own fill.sh prints them over the translation 7e4fe9117a335b0e… (all of the seat's roots in one cut). By AI agents, Wed Nov 11 2026. No macro, syntax, notation, axiom, sorry.
-/
import Derived.Test.YtdlpcfhhpjjjmaaDoorChecked
import GoSem.Claim
import GoSem.ClaimJoined
import GoSem.ClaimMapViews
import Derived.JoinedTies
import Derived.KernelRfl
namespace Go.Proofs.YtdlpcfhhpjjjmaaDoor
/- THE CELL 'sum', in the pinned program and in every row, IS THE sha256 OF THE DUMP (.gsa) THAT YtdlpcfhhpjjjmaaDoorProg.lean LOADS. Nothing in Lean hashes anything: it is a label: what it is worth is what the hold of that sum in a sandbox is worth. -/
noncomputable def Tryd.pinned : Pinned := { name := "ytdlpcfhhpjjjmaadoor", sum := "7e4fe9117a335b0e7937efbbacbdc734b4797143fe029083f7500ee63f40c892", checked := Tryd.checked }
namespace Rows
def none {H : Type} : Left H := { results := [], args := [] }

/- WHAT THE LISTED PACKAGE-LEVEL VARIABLES READ AS WHEN THE CALL BEGINS. Each datum BY PROGRAM (the guide's laid-datum.mjs) off the statement by which the dump's own 'gosem.cut.vars' lays the variable. In a bare row this is a premise. The card (YtdlpcfhhpjjjmaaDoorCards.lean) ties it to the program's text. -/
def laid_math_bits_deBruijn32tab {H : Type} : DataW H := .agg [.lit (.int .u8 0), .lit (.int .u8 1), .lit (.int .u8 28), .lit (.int .u8 2), .lit (.int .u8 29), .lit (.int .u8 14), .lit (.int .u8 24), .lit (.int .u8 3), .lit (.int .u8 30), .lit (.int .u8 22), .lit (.int .u8 20), .lit (.int .u8 15), .lit (.int .u8 25), .lit (.int .u8 17), .lit (.int .u8 4), .lit (.int .u8 8), .lit (.int .u8 31), .lit (.int .u8 27), .lit (.int .u8 13), .lit (.int .u8 23), .lit (.int .u8 21), .lit (.int .u8 19), .lit (.int .u8 16), .lit (.int .u8 7), .lit (.int .u8 26), .lit (.int .u8 12), .lit (.int .u8 18), .lit (.int .u8 6), .lit (.int .u8 11), .lit (.int .u8 5), .lit (.int .u8 10), .lit (.int .u8 9)]
def laid_math_bits_deBruijn64tab {H : Type} : DataW H := .agg [.lit (.int .u8 0), .lit (.int .u8 1), .lit (.int .u8 56), .lit (.int .u8 2), .lit (.int .u8 57), .lit (.int .u8 49), .lit (.int .u8 28), .lit (.int .u8 3), .lit (.int .u8 61), .lit (.int .u8 58), .lit (.int .u8 42), .lit (.int .u8 50), .lit (.int .u8 38), .lit (.int .u8 29), .lit (.int .u8 17), .lit (.int .u8 4), .lit (.int .u8 62), .lit (.int .u8 47), .lit (.int .u8 59), .lit (.int .u8 36), .lit (.int .u8 45), .lit (.int .u8 43), .lit (.int .u8 51), .lit (.int .u8 22), .lit (.int .u8 53), .lit (.int .u8 39), .lit (.int .u8 33), .lit (.int .u8 30), .lit (.int .u8 24), .lit (.int .u8 18), .lit (.int .u8 12), .lit (.int .u8 5), .lit (.int .u8 63), .lit (.int .u8 55), .lit (.int .u8 48), .lit (.int .u8 27), .lit (.int .u8 60), .lit (.int .u8 41), .lit (.int .u8 37), .lit (.int .u8 16), .lit (.int .u8 46), .lit (.int .u8 35), .lit (.int .u8 44), .lit (.int .u8 21), .lit (.int .u8 52), .lit (.int .u8 32), .lit (.int .u8 23), .lit (.int .u8 11), .lit (.int .u8 54), .lit (.int .u8 26), .lit (.int .u8 40), .lit (.int .u8 15), .lit (.int .u8 34), .lit (.int .u8 20), .lit (.int .u8 31), .lit (.int .u8 10), .lit (.int .u8 25), .lit (.int .u8 14), .lit (.int .u8 19), .lit (.int .u8 9), .lit (.int .u8 13), .lit (.int .u8 8), .lit (.int .u8 7), .lit (.int .u8 6)]
def laid_internal_strconv_uint64pow10 {H : Type} : DataW H := .agg [.lit (.int .u64 1), .lit (.int .u64 10), .lit (.int .u64 100), .lit (.int .u64 1000), .lit (.int .u64 10000), .lit (.int .u64 100000), .lit (.int .u64 1000000), .lit (.int .u64 10000000), .lit (.int .u64 100000000), .lit (.int .u64 1000000000), .lit (.int .u64 10000000000), .lit (.int .u64 100000000000), .lit (.int .u64 1000000000000), .lit (.int .u64 10000000000000), .lit (.int .u64 100000000000000), .lit (.int .u64 1000000000000000), .lit (.int .u64 10000000000000000), .lit (.int .u64 100000000000000000), .lit (.int .u64 1000000000000000000), .lit (.int .u64 10000000000000000000)]
def laid_strconv_ErrRange {H : Type} : DataW H := .iface "*errors.errorString" (.ptr (.agg [.lit (.string [118, 97, 108, 117, 101, 32, 111, 117, 116, 32, 111, 102, 32, 114, 97, 110, 103, 101])]))
def laid_strconv_ErrSyntax {H : Type} : DataW H := .iface "*errors.errorString" (.ptr (.agg [.lit (.string [105, 110, 118, 97, 108, 105, 100, 32, 115, 121, 110, 116, 97, 120])]))

/-- 'laws.FnSemverPre': WHATEVER THE INPUT: true; the input reads as it did. -/
def fnSemverPreSpec : ChangeSpec := { name := "fnSemverPre", fn := fun _ => fun
  | [d1, d2] => { results := [.lit (.bool true)], args := [d1, d2] }
  | _ => none }
def fnSemverPreRow : OpenClaim := { program := "ytdlpcfhhpjjjmaadoor", sum := "7e4fe9117a335b0e7937efbbacbdc734b4797143fe029083f7500ee63f40c892", func := "pub-timebook/laws.FnSemverPre", spec := "fnSemverPre", named := ["strconv.ErrSyntax", "strconv.ErrRange", "internal/strconv.uint64pow10", "math/bits.deBruijn32tab", "math/bits.deBruijn64tab"], apart := false, laid := [("math/bits.deBruijn32tab", laid_math_bits_deBruijn32tab), ("math/bits.deBruijn64tab", laid_math_bits_deBruijn64tab), ("internal/strconv.uint64pow10", laid_internal_strconv_uint64pow10), ("strconv.ErrRange", laid_strconv_ErrRange), ("strconv.ErrSyntax", laid_strconv_ErrSyntax)] }
def FnSemverPreSaid : Prop := fnSemverPreRow.holds Tryd.pinned (OpenSpec.ofChange fnSemverPreSpec)

/-- ITS FALSE NEIGHBOUR: 'it returns false'. Refute it at one input. -/
def fnSemverPreWrong : ChangeSpec := { name := "fnSemverPre", fn := fun _ => fun
  | [d1, d2] => { results := [.lit (.bool false)], args := [d1, d2] }
  | _ => none }
def FnSemverPreWrongFalsely : Prop := fnSemverPreRow.holds Tryd.pinned (OpenSpec.ofChange fnSemverPreWrong)

/-- 'laws.FnSemverPreInVersion': WHATEVER THE INPUT: true; the input reads as it did. -/
def fnSemverPreInVersionSpec : ChangeSpec := { name := "fnSemverPreInVersion", fn := fun _ => fun
  | [d1, d2, d3] => { results := [.lit (.bool true)], args := [d1, d2, d3] }
  | _ => none }
def fnSemverPreInVersionRow : OpenClaim := { program := "ytdlpcfhhpjjjmaadoor", sum := "7e4fe9117a335b0e7937efbbacbdc734b4797143fe029083f7500ee63f40c892", func := "pub-timebook/laws.FnSemverPreInVersion", spec := "fnSemverPreInVersion", named := ["strconv.ErrSyntax", "strconv.ErrRange", "internal/strconv.uint64pow10", "math/bits.deBruijn32tab", "math/bits.deBruijn64tab"], apart := false, laid := [("math/bits.deBruijn32tab", laid_math_bits_deBruijn32tab), ("math/bits.deBruijn64tab", laid_math_bits_deBruijn64tab), ("internal/strconv.uint64pow10", laid_internal_strconv_uint64pow10), ("strconv.ErrRange", laid_strconv_ErrRange), ("strconv.ErrSyntax", laid_strconv_ErrSyntax)] }
def FnSemverPreInVersionSaid : Prop := fnSemverPreInVersionRow.holds Tryd.pinned (OpenSpec.ofChange fnSemverPreInVersionSpec)

/-- ITS FALSE NEIGHBOUR: 'it returns false'. Refute it at one input. -/
def fnSemverPreInVersionWrong : ChangeSpec := { name := "fnSemverPreInVersion", fn := fun _ => fun
  | [d1, d2, d3] => { results := [.lit (.bool false)], args := [d1, d2, d3] }
  | _ => none }
def FnSemverPreInVersionWrongFalsely : Prop := fnSemverPreInVersionRow.holds Tryd.pinned (OpenSpec.ofChange fnSemverPreInVersionWrong)

/-- 'laws.FnSemverMetaFree': WHATEVER THE INPUT: true; the input reads as it did. -/
def fnSemverMetaFreeSpec : ChangeSpec := { name := "fnSemverMetaFree", fn := fun _ => fun
  | [d1, d2, d3, d4] => { results := [.lit (.bool true)], args := [d1, d2, d3, d4] }
  | _ => none }
def fnSemverMetaFreeRow : OpenClaim := { program := "ytdlpcfhhpjjjmaadoor", sum := "7e4fe9117a335b0e7937efbbacbdc734b4797143fe029083f7500ee63f40c892", func := "pub-timebook/laws.FnSemverMetaFree", spec := "fnSemverMetaFree", named := ["strconv.ErrSyntax", "strconv.ErrRange", "internal/strconv.uint64pow10", "math/bits.deBruijn32tab", "math/bits.deBruijn64tab"], apart := false, laid := [("math/bits.deBruijn32tab", laid_math_bits_deBruijn32tab), ("math/bits.deBruijn64tab", laid_math_bits_deBruijn64tab), ("internal/strconv.uint64pow10", laid_internal_strconv_uint64pow10), ("strconv.ErrRange", laid_strconv_ErrRange), ("strconv.ErrSyntax", laid_strconv_ErrSyntax)] }
def FnSemverMetaFreeSaid : Prop := fnSemverMetaFreeRow.holds Tryd.pinned (OpenSpec.ofChange fnSemverMetaFreeSpec)

/-- ITS FALSE NEIGHBOUR: 'it returns false'. Refute it at one input. -/
def fnSemverMetaFreeWrong : ChangeSpec := { name := "fnSemverMetaFree", fn := fun _ => fun
  | [d1, d2, d3, d4] => { results := [.lit (.bool false)], args := [d1, d2, d3, d4] }
  | _ => none }
def FnSemverMetaFreeWrongFalsely : Prop := fnSemverMetaFreeRow.holds Tryd.pinned (OpenSpec.ofChange fnSemverMetaFreeWrong)

/-- 'laws.FnSemverTildeHolds': WHATEVER THE INPUT: true; the input reads as it did. -/
def fnSemverTildeHoldsSpec : ChangeSpec := { name := "fnSemverTildeHolds", fn := fun _ => fun
  | [d1, d2, d3] => { results := [.lit (.bool true)], args := [d1, d2, d3] }
  | _ => none }
def fnSemverTildeHoldsRow : OpenClaim := { program := "ytdlpcfhhpjjjmaadoor", sum := "7e4fe9117a335b0e7937efbbacbdc734b4797143fe029083f7500ee63f40c892", func := "pub-timebook/laws.FnSemverTildeHolds", spec := "fnSemverTildeHolds", named := ["strconv.ErrSyntax", "strconv.ErrRange", "internal/strconv.uint64pow10", "math/bits.deBruijn32tab", "math/bits.deBruijn64tab"], apart := false, laid := [("math/bits.deBruijn32tab", laid_math_bits_deBruijn32tab), ("math/bits.deBruijn64tab", laid_math_bits_deBruijn64tab), ("internal/strconv.uint64pow10", laid_internal_strconv_uint64pow10), ("strconv.ErrRange", laid_strconv_ErrRange), ("strconv.ErrSyntax", laid_strconv_ErrSyntax)] }
def FnSemverTildeHoldsSaid : Prop := fnSemverTildeHoldsRow.holds Tryd.pinned (OpenSpec.ofChange fnSemverTildeHoldsSpec)

/-- ITS FALSE NEIGHBOUR: 'it returns false'. Refute it at one input. -/
def fnSemverTildeHoldsWrong : ChangeSpec := { name := "fnSemverTildeHolds", fn := fun _ => fun
  | [d1, d2, d3] => { results := [.lit (.bool false)], args := [d1, d2, d3] }
  | _ => none }
def FnSemverTildeHoldsWrongFalsely : Prop := fnSemverTildeHoldsRow.holds Tryd.pinned (OpenSpec.ofChange fnSemverTildeHoldsWrong)

/-- 'laws.FnSemverTildeWindow': WHATEVER THE INPUT: true; the input reads as it did. -/
def fnSemverTildeWindowSpec : ChangeSpec := { name := "fnSemverTildeWindow", fn := fun _ => fun
  | [d1, d2] => { results := [.lit (.bool true)], args := [d1, d2] }
  | _ => none }
def fnSemverTildeWindowRow : OpenClaim := { program := "ytdlpcfhhpjjjmaadoor", sum := "7e4fe9117a335b0e7937efbbacbdc734b4797143fe029083f7500ee63f40c892", func := "pub-timebook/laws.FnSemverTildeWindow", spec := "fnSemverTildeWindow", named := ["strconv.ErrSyntax", "strconv.ErrRange", "internal/strconv.uint64pow10", "math/bits.deBruijn32tab", "math/bits.deBruijn64tab"], apart := false, laid := [("math/bits.deBruijn32tab", laid_math_bits_deBruijn32tab), ("math/bits.deBruijn64tab", laid_math_bits_deBruijn64tab), ("internal/strconv.uint64pow10", laid_internal_strconv_uint64pow10), ("strconv.ErrRange", laid_strconv_ErrRange), ("strconv.ErrSyntax", laid_strconv_ErrSyntax)] }
def FnSemverTildeWindowSaid : Prop := fnSemverTildeWindowRow.holds Tryd.pinned (OpenSpec.ofChange fnSemverTildeWindowSpec)

/-- ITS FALSE NEIGHBOUR: 'it returns false'. Refute it at one input. -/
def fnSemverTildeWindowWrong : ChangeSpec := { name := "fnSemverTildeWindow", fn := fun _ => fun
  | [d1, d2] => { results := [.lit (.bool false)], args := [d1, d2] }
  | _ => none }
def FnSemverTildeWindowWrongFalsely : Prop := fnSemverTildeWindowRow.holds Tryd.pinned (OpenSpec.ofChange fnSemverTildeWindowWrong)

/-- 'laws.FnSemverTermMeta': WHATEVER THE INPUT: true; the input reads as it did. -/
def fnSemverTermMetaSpec : ChangeSpec := { name := "fnSemverTermMeta", fn := fun _ => fun
  | [d1, d2, d3, d4] => { results := [.lit (.bool true)], args := [d1, d2, d3, d4] }
  | _ => none }
def fnSemverTermMetaRow : OpenClaim := { program := "ytdlpcfhhpjjjmaadoor", sum := "7e4fe9117a335b0e7937efbbacbdc734b4797143fe029083f7500ee63f40c892", func := "pub-timebook/laws.FnSemverTermMeta", spec := "fnSemverTermMeta", named := ["strconv.ErrSyntax", "strconv.ErrRange", "internal/strconv.uint64pow10", "math/bits.deBruijn32tab", "math/bits.deBruijn64tab"], apart := false, laid := [("math/bits.deBruijn32tab", laid_math_bits_deBruijn32tab), ("math/bits.deBruijn64tab", laid_math_bits_deBruijn64tab), ("internal/strconv.uint64pow10", laid_internal_strconv_uint64pow10), ("strconv.ErrRange", laid_strconv_ErrRange), ("strconv.ErrSyntax", laid_strconv_ErrSyntax)] }
def FnSemverTermMetaSaid : Prop := fnSemverTermMetaRow.holds Tryd.pinned (OpenSpec.ofChange fnSemverTermMetaSpec)

/-- ITS FALSE NEIGHBOUR: 'it returns false'. Refute it at one input. -/
def fnSemverTermMetaWrong : ChangeSpec := { name := "fnSemverTermMeta", fn := fun _ => fun
  | [d1, d2, d3, d4] => { results := [.lit (.bool false)], args := [d1, d2, d3, d4] }
  | _ => none }
def FnSemverTermMetaWrongFalsely : Prop := fnSemverTermMetaRow.holds Tryd.pinned (OpenSpec.ofChange fnSemverTermMetaWrong)

/-- 'laws.FnSemverTermOpposite': WHATEVER THE INPUT: true; the input reads as it did. -/
def fnSemverTermOppositeSpec : ChangeSpec := { name := "fnSemverTermOpposite", fn := fun _ => fun
  | [d1, d2, d3] => { results := [.lit (.bool true)], args := [d1, d2, d3] }
  | _ => none }
def fnSemverTermOppositeRow : OpenClaim := { program := "ytdlpcfhhpjjjmaadoor", sum := "7e4fe9117a335b0e7937efbbacbdc734b4797143fe029083f7500ee63f40c892", func := "pub-timebook/laws.FnSemverTermOpposite", spec := "fnSemverTermOpposite", named := ["strconv.ErrSyntax", "strconv.ErrRange", "internal/strconv.uint64pow10", "math/bits.deBruijn32tab", "math/bits.deBruijn64tab"], apart := false, laid := [("math/bits.deBruijn32tab", laid_math_bits_deBruijn32tab), ("math/bits.deBruijn64tab", laid_math_bits_deBruijn64tab), ("internal/strconv.uint64pow10", laid_internal_strconv_uint64pow10), ("strconv.ErrRange", laid_strconv_ErrRange), ("strconv.ErrSyntax", laid_strconv_ErrSyntax)] }
def FnSemverTermOppositeSaid : Prop := fnSemverTermOppositeRow.holds Tryd.pinned (OpenSpec.ofChange fnSemverTermOppositeSpec)

/-- ITS FALSE NEIGHBOUR: 'it returns false'. Refute it at one input. -/
def fnSemverTermOppositeWrong : ChangeSpec := { name := "fnSemverTermOpposite", fn := fun _ => fun
  | [d1, d2, d3] => { results := [.lit (.bool false)], args := [d1, d2, d3] }
  | _ => none }
def FnSemverTermOppositeWrongFalsely : Prop := fnSemverTermOppositeRow.holds Tryd.pinned (OpenSpec.ofChange fnSemverTermOppositeWrong)

/-- 'laws.FnSemverTermPartition': WHATEVER THE INPUT: true; the input reads as it did. -/
def fnSemverTermPartitionSpec : ChangeSpec := { name := "fnSemverTermPartition", fn := fun _ => fun
  | [d1, d2, d3] => { results := [.lit (.bool true)], args := [d1, d2, d3] }
  | _ => none }
def fnSemverTermPartitionRow : OpenClaim := { program := "ytdlpcfhhpjjjmaadoor", sum := "7e4fe9117a335b0e7937efbbacbdc734b4797143fe029083f7500ee63f40c892", func := "pub-timebook/laws.FnSemverTermPartition", spec := "fnSemverTermPartition", named := ["strconv.ErrSyntax", "strconv.ErrRange", "internal/strconv.uint64pow10", "math/bits.deBruijn32tab", "math/bits.deBruijn64tab"], apart := false, laid := [("math/bits.deBruijn32tab", laid_math_bits_deBruijn32tab), ("math/bits.deBruijn64tab", laid_math_bits_deBruijn64tab), ("internal/strconv.uint64pow10", laid_internal_strconv_uint64pow10), ("strconv.ErrRange", laid_strconv_ErrRange), ("strconv.ErrSyntax", laid_strconv_ErrSyntax)] }
def FnSemverTermPartitionSaid : Prop := fnSemverTermPartitionRow.holds Tryd.pinned (OpenSpec.ofChange fnSemverTermPartitionSpec)

/-- ITS FALSE NEIGHBOUR: 'it returns false'. Refute it at one input. -/
def fnSemverTermPartitionWrong : ChangeSpec := { name := "fnSemverTermPartition", fn := fun _ => fun
  | [d1, d2, d3] => { results := [.lit (.bool false)], args := [d1, d2, d3] }
  | _ => none }
def FnSemverTermPartitionWrongFalsely : Prop := fnSemverTermPartitionRow.holds Tryd.pinned (OpenSpec.ofChange fnSemverTermPartitionWrong)

/-- 'laws.FnSemverShut': WHATEVER THE INPUT: true; the input reads as it did. -/
def fnSemverShutSpec : ChangeSpec := { name := "fnSemverShut", fn := fun _ => fun
  | [d1, d2] => { results := [.lit (.bool true)], args := [d1, d2] }
  | _ => none }
def fnSemverShutRow : OpenClaim := { program := "ytdlpcfhhpjjjmaadoor", sum := "7e4fe9117a335b0e7937efbbacbdc734b4797143fe029083f7500ee63f40c892", func := "pub-timebook/laws.FnSemverShut", spec := "fnSemverShut", named := ["strconv.ErrSyntax", "strconv.ErrRange", "internal/strconv.uint64pow10", "math/bits.deBruijn32tab", "math/bits.deBruijn64tab"], apart := false, laid := [("math/bits.deBruijn32tab", laid_math_bits_deBruijn32tab), ("math/bits.deBruijn64tab", laid_math_bits_deBruijn64tab), ("internal/strconv.uint64pow10", laid_internal_strconv_uint64pow10), ("strconv.ErrRange", laid_strconv_ErrRange), ("strconv.ErrSyntax", laid_strconv_ErrSyntax)] }
def FnSemverShutSaid : Prop := fnSemverShutRow.holds Tryd.pinned (OpenSpec.ofChange fnSemverShutSpec)

/-- ITS FALSE NEIGHBOUR: 'it returns false'. Refute it at one input. -/
def fnSemverShutWrong : ChangeSpec := { name := "fnSemverShut", fn := fun _ => fun
  | [d1, d2] => { results := [.lit (.bool false)], args := [d1, d2] }
  | _ => none }
def FnSemverShutWrongFalsely : Prop := fnSemverShutRow.holds Tryd.pinned (OpenSpec.ofChange fnSemverShutWrong)

/-- 'laws.FnSemverImplies': WHATEVER THE INPUT: true; the input reads as it did. -/
def fnSemverImpliesSpec : ChangeSpec := { name := "fnSemverImplies", fn := fun _ => fun
  | [d1, d2, d3] => { results := [.lit (.bool true)], args := [d1, d2, d3] }
  | _ => none }
def fnSemverImpliesRow : OpenClaim := { program := "ytdlpcfhhpjjjmaadoor", sum := "7e4fe9117a335b0e7937efbbacbdc734b4797143fe029083f7500ee63f40c892", func := "pub-timebook/laws.FnSemverImplies", spec := "fnSemverImplies", unfollowed := true, recurses := true, named := ["strconv.ErrSyntax", "strconv.ErrRange", "internal/strconv.uint64pow10", "math/bits.deBruijn32tab", "math/bits.deBruijn64tab"], apart := false, laid := [("math/bits.deBruijn32tab", laid_math_bits_deBruijn32tab), ("math/bits.deBruijn64tab", laid_math_bits_deBruijn64tab), ("internal/strconv.uint64pow10", laid_internal_strconv_uint64pow10), ("strconv.ErrRange", laid_strconv_ErrRange), ("strconv.ErrSyntax", laid_strconv_ErrSyntax)] }
def FnSemverImpliesSaid : Prop := fnSemverImpliesRow.holds Tryd.pinned (OpenSpec.ofChange fnSemverImpliesSpec)

/-- ITS FALSE NEIGHBOUR: 'it returns false'. Refute it at one input. -/
def fnSemverImpliesWrong : ChangeSpec := { name := "fnSemverImplies", fn := fun _ => fun
  | [d1, d2, d3] => { results := [.lit (.bool false)], args := [d1, d2, d3] }
  | _ => none }
def FnSemverImpliesWrongFalsely : Prop := fnSemverImpliesRow.holds Tryd.pinned (OpenSpec.ofChange fnSemverImpliesWrong)

/-- 'laws.FnSemverTermsDistribute': WHATEVER THE INPUT: true; the input reads as it did. -/
def fnSemverTermsDistributeSpec : ChangeSpec := { name := "fnSemverTermsDistribute", fn := fun _ => fun
  | [d1, d2, d3, d4] => { results := [.lit (.bool true)], args := [d1, d2, d3, d4] }
  | _ => none }
def fnSemverTermsDistributeRow : OpenClaim := { program := "ytdlpcfhhpjjjmaadoor", sum := "7e4fe9117a335b0e7937efbbacbdc734b4797143fe029083f7500ee63f40c892", func := "pub-timebook/laws.FnSemverTermsDistribute", spec := "fnSemverTermsDistribute", named := ["strconv.ErrSyntax", "strconv.ErrRange", "internal/strconv.uint64pow10", "math/bits.deBruijn32tab", "math/bits.deBruijn64tab"], apart := false, laid := [("math/bits.deBruijn32tab", laid_math_bits_deBruijn32tab), ("math/bits.deBruijn64tab", laid_math_bits_deBruijn64tab), ("internal/strconv.uint64pow10", laid_internal_strconv_uint64pow10), ("strconv.ErrRange", laid_strconv_ErrRange), ("strconv.ErrSyntax", laid_strconv_ErrSyntax)] }
def FnSemverTermsDistributeSaid : Prop := fnSemverTermsDistributeRow.holds Tryd.pinned (OpenSpec.ofChange fnSemverTermsDistributeSpec)

/-- ITS FALSE NEIGHBOUR: 'it returns false'. Refute it at one input. -/
def fnSemverTermsDistributeWrong : ChangeSpec := { name := "fnSemverTermsDistribute", fn := fun _ => fun
  | [d1, d2, d3, d4] => { results := [.lit (.bool false)], args := [d1, d2, d3, d4] }
  | _ => none }
def FnSemverTermsDistributeWrongFalsely : Prop := fnSemverTermsDistributeRow.holds Tryd.pinned (OpenSpec.ofChange fnSemverTermsDistributeWrong)

/-- 'laws.FnSemverIncMinor': WHATEVER THE INPUT: true; the input reads as it did. -/
def fnSemverIncMinorSpec : ChangeSpec := { name := "fnSemverIncMinor", fn := fun _ => fun
  | [d] => { results := [.lit (.bool true)], args := [d] }
  | _ => none }
def fnSemverIncMinorRow : OpenClaim := { program := "ytdlpcfhhpjjjmaadoor", sum := "7e4fe9117a335b0e7937efbbacbdc734b4797143fe029083f7500ee63f40c892", func := "pub-timebook/laws.FnSemverIncMinor", spec := "fnSemverIncMinor", named := ["internal/strconv.uint64pow10", "math/bits.deBruijn32tab", "math/bits.deBruijn64tab"], apart := false, laid := [("math/bits.deBruijn32tab", laid_math_bits_deBruijn32tab), ("math/bits.deBruijn64tab", laid_math_bits_deBruijn64tab), ("internal/strconv.uint64pow10", laid_internal_strconv_uint64pow10)] }
def FnSemverIncMinorSaid : Prop := fnSemverIncMinorRow.holds Tryd.pinned (OpenSpec.ofChange fnSemverIncMinorSpec)

/-- ITS FALSE NEIGHBOUR: 'it returns false'. Refute it at one input. -/
def fnSemverIncMinorWrong : ChangeSpec := { name := "fnSemverIncMinor", fn := fun _ => fun
  | [d] => { results := [.lit (.bool false)], args := [d] }
  | _ => none }
def FnSemverIncMinorWrongFalsely : Prop := fnSemverIncMinorRow.holds Tryd.pinned (OpenSpec.ofChange fnSemverIncMinorWrong)

/- THE SECOND FORM. 'bulk': how many values and letters a reading holds, each counted each time it is reached (what is shared counts as often as it is met; a slice's spare places count too). A statement '..UptoSaid' is the law's where the arguments, and the package variables that the reading takes, are together of bulk at most 1048576: NARROWER than '..Said'. Prove '..Said' where nothing that the law and all that it calls make is longer than what came in: it says more and counts as full. Else prove '..UptoSaid'. A law counts once. -/
mutual
def uptoBulk {H : Type} : DataW H → Nat
  | .lit (.string bytes) => bytes.length + 1
  | .lit _ => 1
  | .nil => 1
  | .ptr d => uptoBulk d + 1
  | .slice elems spare => uptoBulkAll elems + uptoBulkAll spare + 1
  | .agg parts => uptoBulkAll parts + 1
  | .iface _ d => uptoBulk d + 1
  | .map entries => uptoBulkEntries entries + 1
  | .held _ => 1
def uptoBulkAll {H : Type} : List (DataW H) → Nat
  | [] => 0
  | d :: r => uptoBulk d + uptoBulkAll r
def uptoBulkEntries {H : Type} : List (Lit × DataW H) → Nat
  | [] => 0
  | x :: r => uptoBulkEntry x + uptoBulkEntries r
def uptoBulkEntry {H : Type} : Lit × DataW H → Nat
  | (.string bytes, d) => bytes.length + uptoBulk d + 1
  | (_, d) => uptoBulk d + 1
 end
def uptoSmall : (H : Type) → List (DataW H) → Bool := fun _ ds => decide (uptoBulkAll ds ≤ 1048576)
def OpenSpec.upto (s : _root_.Go.ChangeSpec) : _root_.Go.OpenSpec := { _root_.Go.OpenSpec.ofChange s with cond := some uptoSmall }

/-- 'laws.FnSemverPre', WHERE WHAT IT READS IS OF BULK AT MOST 1048576: true; the input reads as it did. -/
def fnSemverPreUptoRow : OpenClaim := { program := "ytdlpcfhhpjjjmaadoor", sum := "7e4fe9117a335b0e7937efbbacbdc734b4797143fe029083f7500ee63f40c892", func := "pub-timebook/laws.FnSemverPre", spec := "fnSemverPre", named := ["strconv.ErrSyntax", "strconv.ErrRange", "internal/strconv.uint64pow10", "math/bits.deBruijn32tab", "math/bits.deBruijn64tab"], apart := false, laid := [("math/bits.deBruijn32tab", laid_math_bits_deBruijn32tab), ("math/bits.deBruijn64tab", laid_math_bits_deBruijn64tab), ("internal/strconv.uint64pow10", laid_internal_strconv_uint64pow10), ("strconv.ErrRange", laid_strconv_ErrRange), ("strconv.ErrSyntax", laid_strconv_ErrSyntax)], narrowed := true }
def FnSemverPreUptoSaid : Prop := fnSemverPreUptoRow.holds Tryd.pinned (OpenSpec.upto fnSemverPreSpec)

/-- 'laws.FnSemverPreInVersion', WHERE WHAT IT READS IS OF BULK AT MOST 1048576: true; the input reads as it did. -/
def fnSemverPreInVersionUptoRow : OpenClaim := { program := "ytdlpcfhhpjjjmaadoor", sum := "7e4fe9117a335b0e7937efbbacbdc734b4797143fe029083f7500ee63f40c892", func := "pub-timebook/laws.FnSemverPreInVersion", spec := "fnSemverPreInVersion", named := ["strconv.ErrSyntax", "strconv.ErrRange", "internal/strconv.uint64pow10", "math/bits.deBruijn32tab", "math/bits.deBruijn64tab"], apart := false, laid := [("math/bits.deBruijn32tab", laid_math_bits_deBruijn32tab), ("math/bits.deBruijn64tab", laid_math_bits_deBruijn64tab), ("internal/strconv.uint64pow10", laid_internal_strconv_uint64pow10), ("strconv.ErrRange", laid_strconv_ErrRange), ("strconv.ErrSyntax", laid_strconv_ErrSyntax)], narrowed := true }
def FnSemverPreInVersionUptoSaid : Prop := fnSemverPreInVersionUptoRow.holds Tryd.pinned (OpenSpec.upto fnSemverPreInVersionSpec)

/-- 'laws.FnSemverMetaFree', WHERE WHAT IT READS IS OF BULK AT MOST 1048576: true; the input reads as it did. -/
def fnSemverMetaFreeUptoRow : OpenClaim := { program := "ytdlpcfhhpjjjmaadoor", sum := "7e4fe9117a335b0e7937efbbacbdc734b4797143fe029083f7500ee63f40c892", func := "pub-timebook/laws.FnSemverMetaFree", spec := "fnSemverMetaFree", named := ["strconv.ErrSyntax", "strconv.ErrRange", "internal/strconv.uint64pow10", "math/bits.deBruijn32tab", "math/bits.deBruijn64tab"], apart := false, laid := [("math/bits.deBruijn32tab", laid_math_bits_deBruijn32tab), ("math/bits.deBruijn64tab", laid_math_bits_deBruijn64tab), ("internal/strconv.uint64pow10", laid_internal_strconv_uint64pow10), ("strconv.ErrRange", laid_strconv_ErrRange), ("strconv.ErrSyntax", laid_strconv_ErrSyntax)], narrowed := true }
def FnSemverMetaFreeUptoSaid : Prop := fnSemverMetaFreeUptoRow.holds Tryd.pinned (OpenSpec.upto fnSemverMetaFreeSpec)

/-- 'laws.FnSemverTildeHolds', WHERE WHAT IT READS IS OF BULK AT MOST 1048576: true; the input reads as it did. -/
def fnSemverTildeHoldsUptoRow : OpenClaim := { program := "ytdlpcfhhpjjjmaadoor", sum := "7e4fe9117a335b0e7937efbbacbdc734b4797143fe029083f7500ee63f40c892", func := "pub-timebook/laws.FnSemverTildeHolds", spec := "fnSemverTildeHolds", named := ["strconv.ErrSyntax", "strconv.ErrRange", "internal/strconv.uint64pow10", "math/bits.deBruijn32tab", "math/bits.deBruijn64tab"], apart := false, laid := [("math/bits.deBruijn32tab", laid_math_bits_deBruijn32tab), ("math/bits.deBruijn64tab", laid_math_bits_deBruijn64tab), ("internal/strconv.uint64pow10", laid_internal_strconv_uint64pow10), ("strconv.ErrRange", laid_strconv_ErrRange), ("strconv.ErrSyntax", laid_strconv_ErrSyntax)], narrowed := true }
def FnSemverTildeHoldsUptoSaid : Prop := fnSemverTildeHoldsUptoRow.holds Tryd.pinned (OpenSpec.upto fnSemverTildeHoldsSpec)

/-- 'laws.FnSemverTildeWindow', WHERE WHAT IT READS IS OF BULK AT MOST 1048576: true; the input reads as it did. -/
def fnSemverTildeWindowUptoRow : OpenClaim := { program := "ytdlpcfhhpjjjmaadoor", sum := "7e4fe9117a335b0e7937efbbacbdc734b4797143fe029083f7500ee63f40c892", func := "pub-timebook/laws.FnSemverTildeWindow", spec := "fnSemverTildeWindow", named := ["strconv.ErrSyntax", "strconv.ErrRange", "internal/strconv.uint64pow10", "math/bits.deBruijn32tab", "math/bits.deBruijn64tab"], apart := false, laid := [("math/bits.deBruijn32tab", laid_math_bits_deBruijn32tab), ("math/bits.deBruijn64tab", laid_math_bits_deBruijn64tab), ("internal/strconv.uint64pow10", laid_internal_strconv_uint64pow10), ("strconv.ErrRange", laid_strconv_ErrRange), ("strconv.ErrSyntax", laid_strconv_ErrSyntax)], narrowed := true }
def FnSemverTildeWindowUptoSaid : Prop := fnSemverTildeWindowUptoRow.holds Tryd.pinned (OpenSpec.upto fnSemverTildeWindowSpec)

/-- 'laws.FnSemverTermMeta', WHERE WHAT IT READS IS OF BULK AT MOST 1048576: true; the input reads as it did. -/
def fnSemverTermMetaUptoRow : OpenClaim := { program := "ytdlpcfhhpjjjmaadoor", sum := "7e4fe9117a335b0e7937efbbacbdc734b4797143fe029083f7500ee63f40c892", func := "pub-timebook/laws.FnSemverTermMeta", spec := "fnSemverTermMeta", named := ["strconv.ErrSyntax", "strconv.ErrRange", "internal/strconv.uint64pow10", "math/bits.deBruijn32tab", "math/bits.deBruijn64tab"], apart := false, laid := [("math/bits.deBruijn32tab", laid_math_bits_deBruijn32tab), ("math/bits.deBruijn64tab", laid_math_bits_deBruijn64tab), ("internal/strconv.uint64pow10", laid_internal_strconv_uint64pow10), ("strconv.ErrRange", laid_strconv_ErrRange), ("strconv.ErrSyntax", laid_strconv_ErrSyntax)], narrowed := true }
def FnSemverTermMetaUptoSaid : Prop := fnSemverTermMetaUptoRow.holds Tryd.pinned (OpenSpec.upto fnSemverTermMetaSpec)

/-- 'laws.FnSemverTermOpposite', WHERE WHAT IT READS IS OF BULK AT MOST 1048576: true; the input reads as it did. -/
def fnSemverTermOppositeUptoRow : OpenClaim := { program := "ytdlpcfhhpjjjmaadoor", sum := "7e4fe9117a335b0e7937efbbacbdc734b4797143fe029083f7500ee63f40c892", func := "pub-timebook/laws.FnSemverTermOpposite", spec := "fnSemverTermOpposite", named := ["strconv.ErrSyntax", "strconv.ErrRange", "internal/strconv.uint64pow10", "math/bits.deBruijn32tab", "math/bits.deBruijn64tab"], apart := false, laid := [("math/bits.deBruijn32tab", laid_math_bits_deBruijn32tab), ("math/bits.deBruijn64tab", laid_math_bits_deBruijn64tab), ("internal/strconv.uint64pow10", laid_internal_strconv_uint64pow10), ("strconv.ErrRange", laid_strconv_ErrRange), ("strconv.ErrSyntax", laid_strconv_ErrSyntax)], narrowed := true }
def FnSemverTermOppositeUptoSaid : Prop := fnSemverTermOppositeUptoRow.holds Tryd.pinned (OpenSpec.upto fnSemverTermOppositeSpec)

/-- 'laws.FnSemverTermPartition', WHERE WHAT IT READS IS OF BULK AT MOST 1048576: true; the input reads as it did. -/
def fnSemverTermPartitionUptoRow : OpenClaim := { program := "ytdlpcfhhpjjjmaadoor", sum := "7e4fe9117a335b0e7937efbbacbdc734b4797143fe029083f7500ee63f40c892", func := "pub-timebook/laws.FnSemverTermPartition", spec := "fnSemverTermPartition", named := ["strconv.ErrSyntax", "strconv.ErrRange", "internal/strconv.uint64pow10", "math/bits.deBruijn32tab", "math/bits.deBruijn64tab"], apart := false, laid := [("math/bits.deBruijn32tab", laid_math_bits_deBruijn32tab), ("math/bits.deBruijn64tab", laid_math_bits_deBruijn64tab), ("internal/strconv.uint64pow10", laid_internal_strconv_uint64pow10), ("strconv.ErrRange", laid_strconv_ErrRange), ("strconv.ErrSyntax", laid_strconv_ErrSyntax)], narrowed := true }
def FnSemverTermPartitionUptoSaid : Prop := fnSemverTermPartitionUptoRow.holds Tryd.pinned (OpenSpec.upto fnSemverTermPartitionSpec)

/-- 'laws.FnSemverShut', WHERE WHAT IT READS IS OF BULK AT MOST 1048576: true; the input reads as it did. -/
def fnSemverShutUptoRow : OpenClaim := { program := "ytdlpcfhhpjjjmaadoor", sum := "7e4fe9117a335b0e7937efbbacbdc734b4797143fe029083f7500ee63f40c892", func := "pub-timebook/laws.FnSemverShut", spec := "fnSemverShut", named := ["strconv.ErrSyntax", "strconv.ErrRange", "internal/strconv.uint64pow10", "math/bits.deBruijn32tab", "math/bits.deBruijn64tab"], apart := false, laid := [("math/bits.deBruijn32tab", laid_math_bits_deBruijn32tab), ("math/bits.deBruijn64tab", laid_math_bits_deBruijn64tab), ("internal/strconv.uint64pow10", laid_internal_strconv_uint64pow10), ("strconv.ErrRange", laid_strconv_ErrRange), ("strconv.ErrSyntax", laid_strconv_ErrSyntax)], narrowed := true }
def FnSemverShutUptoSaid : Prop := fnSemverShutUptoRow.holds Tryd.pinned (OpenSpec.upto fnSemverShutSpec)

/-- 'laws.FnSemverImplies', WHERE WHAT IT READS IS OF BULK AT MOST 1048576: true; the input reads as it did. -/
def fnSemverImpliesUptoRow : OpenClaim := { program := "ytdlpcfhhpjjjmaadoor", sum := "7e4fe9117a335b0e7937efbbacbdc734b4797143fe029083f7500ee63f40c892", func := "pub-timebook/laws.FnSemverImplies", spec := "fnSemverImplies", unfollowed := true, recurses := true, named := ["strconv.ErrSyntax", "strconv.ErrRange", "internal/strconv.uint64pow10", "math/bits.deBruijn32tab", "math/bits.deBruijn64tab"], apart := false, laid := [("math/bits.deBruijn32tab", laid_math_bits_deBruijn32tab), ("math/bits.deBruijn64tab", laid_math_bits_deBruijn64tab), ("internal/strconv.uint64pow10", laid_internal_strconv_uint64pow10), ("strconv.ErrRange", laid_strconv_ErrRange), ("strconv.ErrSyntax", laid_strconv_ErrSyntax)], narrowed := true }
def FnSemverImpliesUptoSaid : Prop := fnSemverImpliesUptoRow.holds Tryd.pinned (OpenSpec.upto fnSemverImpliesSpec)

/-- 'laws.FnSemverTermsDistribute', WHERE WHAT IT READS IS OF BULK AT MOST 1048576: true; the input reads as it did. -/
def fnSemverTermsDistributeUptoRow : OpenClaim := { program := "ytdlpcfhhpjjjmaadoor", sum := "7e4fe9117a335b0e7937efbbacbdc734b4797143fe029083f7500ee63f40c892", func := "pub-timebook/laws.FnSemverTermsDistribute", spec := "fnSemverTermsDistribute", named := ["strconv.ErrSyntax", "strconv.ErrRange", "internal/strconv.uint64pow10", "math/bits.deBruijn32tab", "math/bits.deBruijn64tab"], apart := false, laid := [("math/bits.deBruijn32tab", laid_math_bits_deBruijn32tab), ("math/bits.deBruijn64tab", laid_math_bits_deBruijn64tab), ("internal/strconv.uint64pow10", laid_internal_strconv_uint64pow10), ("strconv.ErrRange", laid_strconv_ErrRange), ("strconv.ErrSyntax", laid_strconv_ErrSyntax)], narrowed := true }
def FnSemverTermsDistributeUptoSaid : Prop := fnSemverTermsDistributeUptoRow.holds Tryd.pinned (OpenSpec.upto fnSemverTermsDistributeSpec)

/-- 'laws.FnSemverIncMinor', WHERE WHAT IT READS IS OF BULK AT MOST 1048576: true; the input reads as it did. -/
def fnSemverIncMinorUptoRow : OpenClaim := { program := "ytdlpcfhhpjjjmaadoor", sum := "7e4fe9117a335b0e7937efbbacbdc734b4797143fe029083f7500ee63f40c892", func := "pub-timebook/laws.FnSemverIncMinor", spec := "fnSemverIncMinor", named := ["internal/strconv.uint64pow10", "math/bits.deBruijn32tab", "math/bits.deBruijn64tab"], apart := false, laid := [("math/bits.deBruijn32tab", laid_math_bits_deBruijn32tab), ("math/bits.deBruijn64tab", laid_math_bits_deBruijn64tab), ("internal/strconv.uint64pow10", laid_internal_strconv_uint64pow10)], narrowed := true }
def FnSemverIncMinorUptoSaid : Prop := fnSemverIncMinorUptoRow.holds Tryd.pinned (OpenSpec.upto fnSemverIncMinorSpec)

end Rows
end Go.Proofs.YtdlpcfhhpjjjmaaDoor
