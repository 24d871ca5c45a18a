/-
  NARROWER THAN 'FOR EVERY INPUT', by the rows' own cells (each row's printed sentence says how): FnWritten: laid · FnParseTopo: laid · FnParseReduced: laid · FnBar: laid · FnBarAhead: laid · FnChain: laid · FnClosed: laid · FnMore: laid · FnParse: laid · FnParseOrder: laid · FnRefuse: laid · FnSpaced: laid.
  DERIVED. THE GIVEN ROWS OF THIS SEAT. 12 by the template 'for every input the law returns true; each argument reads behind the call as it read before'; 0 by the template 'total and deterministic' (their statements: YthpfladpbfbpjaaDoorTotals.lean).
  GIVEN WITH THE SEED: the statements are not yours to turn. If you find one false, say at which input.
  Laid BY PROGRAM, IN A SANDBOX (cutbox-rows.mjs): the forced cells as the released guide's own fill.sh prints them over the translation 616c7213887241c2… (all of the seat's roots in one cut). By AI agents, Wed Nov 11 2026. No macro, syntax, notation, axiom, sorry.
-/
import Derived.Test.YthpfladpbfbpjaaDoorChecked
import GoSem.Claim
import GoSem.ClaimJoined
import GoSem.ClaimMapViews
import Derived.JoinedTies
import Derived.KernelRfl
namespace Go.Proofs.YthpfladpbfbpjaaDoor
/- THE CELL 'sum', in the pinned program and in every row, IS THE sha256 OF THE DUMP (.gsa) THAT YthpfladpbfbpjaaDoorProg.lean LOADS. Nothing in Lean hashes anything: it is a label: what it is worth is what the hold of that sum in a sandbox is worth. -/
noncomputable def Tryd.pinned : Pinned := { name := "ythpfladpbfbpjaadoor", sum := "616c7213887241c299a50f176ba052695b7053753b38232410b9ca6788f94cb7", checked := Tryd.checked }
namespace Rows
def none {H : Type} : Left H := { results := [], args := [] }

/- WHAT THE LISTED PACKAGE-LEVEL VARIABLES READ AS WHEN THE CALL BEGINS. Each datum BY PROGRAM (the guide's laid-datum.mjs) off the statement by which the dump's own 'gosem.cut.vars' lays the variable. In a bare row this is a premise. The card (YthpfladpbfbpjaaDoorCards.lean) ties it to the program's text. -/
def laid_math_bits_deBruijn32tab {H : Type} : DataW H := .agg [.lit (.int .u8 0), .lit (.int .u8 1), .lit (.int .u8 28), .lit (.int .u8 2), .lit (.int .u8 29), .lit (.int .u8 14), .lit (.int .u8 24), .lit (.int .u8 3), .lit (.int .u8 30), .lit (.int .u8 22), .lit (.int .u8 20), .lit (.int .u8 15), .lit (.int .u8 25), .lit (.int .u8 17), .lit (.int .u8 4), .lit (.int .u8 8), .lit (.int .u8 31), .lit (.int .u8 27), .lit (.int .u8 13), .lit (.int .u8 23), .lit (.int .u8 21), .lit (.int .u8 19), .lit (.int .u8 16), .lit (.int .u8 7), .lit (.int .u8 26), .lit (.int .u8 12), .lit (.int .u8 18), .lit (.int .u8 6), .lit (.int .u8 11), .lit (.int .u8 5), .lit (.int .u8 10), .lit (.int .u8 9)]
def laid_math_bits_deBruijn64tab {H : Type} : DataW H := .agg [.lit (.int .u8 0), .lit (.int .u8 1), .lit (.int .u8 56), .lit (.int .u8 2), .lit (.int .u8 57), .lit (.int .u8 49), .lit (.int .u8 28), .lit (.int .u8 3), .lit (.int .u8 61), .lit (.int .u8 58), .lit (.int .u8 42), .lit (.int .u8 50), .lit (.int .u8 38), .lit (.int .u8 29), .lit (.int .u8 17), .lit (.int .u8 4), .lit (.int .u8 62), .lit (.int .u8 47), .lit (.int .u8 59), .lit (.int .u8 36), .lit (.int .u8 45), .lit (.int .u8 43), .lit (.int .u8 51), .lit (.int .u8 22), .lit (.int .u8 53), .lit (.int .u8 39), .lit (.int .u8 33), .lit (.int .u8 30), .lit (.int .u8 24), .lit (.int .u8 18), .lit (.int .u8 12), .lit (.int .u8 5), .lit (.int .u8 63), .lit (.int .u8 55), .lit (.int .u8 48), .lit (.int .u8 27), .lit (.int .u8 60), .lit (.int .u8 41), .lit (.int .u8 37), .lit (.int .u8 16), .lit (.int .u8 46), .lit (.int .u8 35), .lit (.int .u8 44), .lit (.int .u8 21), .lit (.int .u8 52), .lit (.int .u8 32), .lit (.int .u8 23), .lit (.int .u8 11), .lit (.int .u8 54), .lit (.int .u8 26), .lit (.int .u8 40), .lit (.int .u8 15), .lit (.int .u8 34), .lit (.int .u8 20), .lit (.int .u8 31), .lit (.int .u8 10), .lit (.int .u8 25), .lit (.int .u8 14), .lit (.int .u8 19), .lit (.int .u8 9), .lit (.int .u8 13), .lit (.int .u8 8), .lit (.int .u8 7), .lit (.int .u8 6)]
def laid_internal_strconv_uint64pow10 {H : Type} : DataW H := .agg [.lit (.int .u64 1), .lit (.int .u64 10), .lit (.int .u64 100), .lit (.int .u64 1000), .lit (.int .u64 10000), .lit (.int .u64 100000), .lit (.int .u64 1000000), .lit (.int .u64 10000000), .lit (.int .u64 100000000), .lit (.int .u64 1000000000), .lit (.int .u64 10000000000), .lit (.int .u64 100000000000), .lit (.int .u64 1000000000000), .lit (.int .u64 10000000000000), .lit (.int .u64 100000000000000), .lit (.int .u64 1000000000000000), .lit (.int .u64 10000000000000000), .lit (.int .u64 100000000000000000), .lit (.int .u64 1000000000000000000), .lit (.int .u64 10000000000000000000)]

/-- 'laws.FnWritten': WHATEVER THE INPUT: true; the input reads as it did. -/
def fnWrittenSpec : ChangeSpec := { name := "fnWritten", fn := fun _ => fun
  | [d1, d2] => { results := [.lit (.bool true)], args := [d1, d2] }
  | _ => none }
def fnWrittenRow : OpenClaim := { program := "ythpfladpbfbpjaadoor", sum := "616c7213887241c299a50f176ba052695b7053753b38232410b9ca6788f94cb7", func := "loop.example/pub-graphsofrules/laws.FnWritten", spec := "fnWritten", inPlace := ["internal/abi.NoEscape", "internal/bytealg.MakeNoZero"], unfollowed := true, recurses := true, named := ["internal/strconv.uint64pow10", "math/bits.deBruijn32tab", "math/bits.deBruijn64tab"], apart := false, laid := [("math/bits.deBruijn32tab", laid_math_bits_deBruijn32tab), ("math/bits.deBruijn64tab", laid_math_bits_deBruijn64tab), ("internal/strconv.uint64pow10", laid_internal_strconv_uint64pow10)] }
def FnWrittenSaid : Prop := fnWrittenRow.holds Tryd.pinned (OpenSpec.ofChange fnWrittenSpec)

/-- ITS FALSE NEIGHBOUR: 'it returns false'. Refute it at one input. -/
def fnWrittenWrong : ChangeSpec := { name := "fnWritten", fn := fun _ => fun
  | [d1, d2] => { results := [.lit (.bool false)], args := [d1, d2] }
  | _ => none }
def FnWrittenWrongFalsely : Prop := fnWrittenRow.holds Tryd.pinned (OpenSpec.ofChange fnWrittenWrong)

/-- 'laws.FnParseTopo': WHATEVER THE INPUT: true; the input reads as it did. -/
def fnParseTopoSpec : ChangeSpec := { name := "fnParseTopo", fn := fun _ => fun
  | [d] => { results := [.lit (.bool true)], args := [d] }
  | _ => none }
def fnParseTopoRow : OpenClaim := { program := "ythpfladpbfbpjaadoor", sum := "616c7213887241c299a50f176ba052695b7053753b38232410b9ca6788f94cb7", func := "loop.example/pub-graphsofrules/laws.FnParseTopo", spec := "fnParseTopo", inPlace := ["internal/abi.NoEscape", "internal/bytealg.MakeNoZero"], unfollowed := true, recurses := true, named := ["internal/strconv.uint64pow10", "math/bits.deBruijn32tab", "math/bits.deBruijn64tab"], apart := false, laid := [("math/bits.deBruijn32tab", laid_math_bits_deBruijn32tab), ("math/bits.deBruijn64tab", laid_math_bits_deBruijn64tab), ("internal/strconv.uint64pow10", laid_internal_strconv_uint64pow10)] }
def FnParseTopoSaid : Prop := fnParseTopoRow.holds Tryd.pinned (OpenSpec.ofChange fnParseTopoSpec)

/-- ITS FALSE NEIGHBOUR: 'it returns false'. Refute it at one input. -/
def fnParseTopoWrong : ChangeSpec := { name := "fnParseTopo", fn := fun _ => fun
  | [d] => { results := [.lit (.bool false)], args := [d] }
  | _ => none }
def FnParseTopoWrongFalsely : Prop := fnParseTopoRow.holds Tryd.pinned (OpenSpec.ofChange fnParseTopoWrong)

/-- 'laws.FnParseReduced': WHATEVER THE INPUT: true; the input reads as it did. -/
def fnParseReducedSpec : ChangeSpec := { name := "fnParseReduced", fn := fun _ => fun
  | [d] => { results := [.lit (.bool true)], args := [d] }
  | _ => none }
def fnParseReducedRow : OpenClaim := { program := "ythpfladpbfbpjaadoor", sum := "616c7213887241c299a50f176ba052695b7053753b38232410b9ca6788f94cb7", func := "loop.example/pub-graphsofrules/laws.FnParseReduced", spec := "fnParseReduced", inPlace := ["internal/abi.NoEscape", "internal/bytealg.MakeNoZero"], unfollowed := true, recurses := true, named := ["internal/strconv.uint64pow10", "math/bits.deBruijn32tab", "math/bits.deBruijn64tab"], apart := false, laid := [("math/bits.deBruijn32tab", laid_math_bits_deBruijn32tab), ("math/bits.deBruijn64tab", laid_math_bits_deBruijn64tab), ("internal/strconv.uint64pow10", laid_internal_strconv_uint64pow10)] }
def FnParseReducedSaid : Prop := fnParseReducedRow.holds Tryd.pinned (OpenSpec.ofChange fnParseReducedSpec)

/-- ITS FALSE NEIGHBOUR: 'it returns false'. Refute it at one input. -/
def fnParseReducedWrong : ChangeSpec := { name := "fnParseReduced", fn := fun _ => fun
  | [d] => { results := [.lit (.bool false)], args := [d] }
  | _ => none }
def FnParseReducedWrongFalsely : Prop := fnParseReducedRow.holds Tryd.pinned (OpenSpec.ofChange fnParseReducedWrong)

/-- 'laws.FnBar': WHATEVER THE INPUT: true; the input reads as it did. -/
def fnBarSpec : ChangeSpec := { name := "fnBar", fn := fun _ => fun
  | [d1, d2, d3] => { results := [.lit (.bool true)], args := [d1, d2, d3] }
  | _ => none }
def fnBarRow : OpenClaim := { program := "ythpfladpbfbpjaadoor", sum := "616c7213887241c299a50f176ba052695b7053753b38232410b9ca6788f94cb7", func := "loop.example/pub-graphsofrules/laws.FnBar", spec := "fnBar", inPlace := ["internal/abi.NoEscape", "internal/bytealg.MakeNoZero"], unfollowed := true, recurses := true, named := ["internal/strconv.uint64pow10", "math/bits.deBruijn32tab", "math/bits.deBruijn64tab"], apart := false, laid := [("math/bits.deBruijn32tab", laid_math_bits_deBruijn32tab), ("math/bits.deBruijn64tab", laid_math_bits_deBruijn64tab), ("internal/strconv.uint64pow10", laid_internal_strconv_uint64pow10)] }
def FnBarSaid : Prop := fnBarRow.holds Tryd.pinned (OpenSpec.ofChange fnBarSpec)

/-- ITS FALSE NEIGHBOUR: 'it returns false'. Refute it at one input. -/
def fnBarWrong : ChangeSpec := { name := "fnBar", fn := fun _ => fun
  | [d1, d2, d3] => { results := [.lit (.bool false)], args := [d1, d2, d3] }
  | _ => none }
def FnBarWrongFalsely : Prop := fnBarRow.holds Tryd.pinned (OpenSpec.ofChange fnBarWrong)

/-- 'laws.FnBarAhead': WHATEVER THE INPUT: true; the input reads as it did. -/
def fnBarAheadSpec : ChangeSpec := { name := "fnBarAhead", fn := fun _ => fun
  | [d1, d2, d3] => { results := [.lit (.bool true)], args := [d1, d2, d3] }
  | _ => none }
def fnBarAheadRow : OpenClaim := { program := "ythpfladpbfbpjaadoor", sum := "616c7213887241c299a50f176ba052695b7053753b38232410b9ca6788f94cb7", func := "loop.example/pub-graphsofrules/laws.FnBarAhead", spec := "fnBarAhead", inPlace := ["internal/abi.NoEscape", "internal/bytealg.MakeNoZero"], unfollowed := true, recurses := true, named := ["internal/strconv.uint64pow10", "math/bits.deBruijn32tab", "math/bits.deBruijn64tab"], apart := false, laid := [("math/bits.deBruijn32tab", laid_math_bits_deBruijn32tab), ("math/bits.deBruijn64tab", laid_math_bits_deBruijn64tab), ("internal/strconv.uint64pow10", laid_internal_strconv_uint64pow10)] }
def FnBarAheadSaid : Prop := fnBarAheadRow.holds Tryd.pinned (OpenSpec.ofChange fnBarAheadSpec)

/-- ITS FALSE NEIGHBOUR: 'it returns false'. Refute it at one input. -/
def fnBarAheadWrong : ChangeSpec := { name := "fnBarAhead", fn := fun _ => fun
  | [d1, d2, d3] => { results := [.lit (.bool false)], args := [d1, d2, d3] }
  | _ => none }
def FnBarAheadWrongFalsely : Prop := fnBarAheadRow.holds Tryd.pinned (OpenSpec.ofChange fnBarAheadWrong)

/-- 'laws.FnChain': WHATEVER THE INPUT: true; the input reads as it did. -/
def fnChainSpec : ChangeSpec := { name := "fnChain", fn := fun _ => fun
  | [d] => { results := [.lit (.bool true)], args := [d] }
  | _ => none }
def fnChainRow : OpenClaim := { program := "ythpfladpbfbpjaadoor", sum := "616c7213887241c299a50f176ba052695b7053753b38232410b9ca6788f94cb7", func := "loop.example/pub-graphsofrules/laws.FnChain", spec := "fnChain", inPlace := ["internal/abi.NoEscape", "internal/bytealg.MakeNoZero"], unfollowed := true, recurses := true, named := ["internal/strconv.uint64pow10", "math/bits.deBruijn32tab", "math/bits.deBruijn64tab"], apart := false, laid := [("math/bits.deBruijn32tab", laid_math_bits_deBruijn32tab), ("math/bits.deBruijn64tab", laid_math_bits_deBruijn64tab), ("internal/strconv.uint64pow10", laid_internal_strconv_uint64pow10)] }
def FnChainSaid : Prop := fnChainRow.holds Tryd.pinned (OpenSpec.ofChange fnChainSpec)

/-- ITS FALSE NEIGHBOUR: 'it returns false'. Refute it at one input. -/
def fnChainWrong : ChangeSpec := { name := "fnChain", fn := fun _ => fun
  | [d] => { results := [.lit (.bool false)], args := [d] }
  | _ => none }
def FnChainWrongFalsely : Prop := fnChainRow.holds Tryd.pinned (OpenSpec.ofChange fnChainWrong)

/-- 'laws.FnClosed': WHATEVER THE INPUT: true; the input reads as it did. -/
def fnClosedSpec : ChangeSpec := { name := "fnClosed", fn := fun _ => fun
  | [d] => { results := [.lit (.bool true)], args := [d] }
  | _ => none }
def fnClosedRow : OpenClaim := { program := "ythpfladpbfbpjaadoor", sum := "616c7213887241c299a50f176ba052695b7053753b38232410b9ca6788f94cb7", func := "loop.example/pub-graphsofrules/laws.FnClosed", spec := "fnClosed", inPlace := ["internal/abi.NoEscape", "internal/bytealg.MakeNoZero"], unfollowed := true, recurses := true, named := ["internal/strconv.uint64pow10", "math/bits.deBruijn32tab", "math/bits.deBruijn64tab"], apart := false, laid := [("math/bits.deBruijn32tab", laid_math_bits_deBruijn32tab), ("math/bits.deBruijn64tab", laid_math_bits_deBruijn64tab), ("internal/strconv.uint64pow10", laid_internal_strconv_uint64pow10)] }
def FnClosedSaid : Prop := fnClosedRow.holds Tryd.pinned (OpenSpec.ofChange fnClosedSpec)

/-- ITS FALSE NEIGHBOUR: 'it returns false'. Refute it at one input. -/
def fnClosedWrong : ChangeSpec := { name := "fnClosed", fn := fun _ => fun
  | [d] => { results := [.lit (.bool false)], args := [d] }
  | _ => none }
def FnClosedWrongFalsely : Prop := fnClosedRow.holds Tryd.pinned (OpenSpec.ofChange fnClosedWrong)

/-- 'laws.FnMore': WHATEVER THE INPUT: true; the input reads as it did. -/
def fnMoreSpec : ChangeSpec := { name := "fnMore", fn := fun _ => fun
  | [d1, d2, d3] => { results := [.lit (.bool true)], args := [d1, d2, d3] }
  | _ => none }
def fnMoreRow : OpenClaim := { program := "ythpfladpbfbpjaadoor", sum := "616c7213887241c299a50f176ba052695b7053753b38232410b9ca6788f94cb7", func := "loop.example/pub-graphsofrules/laws.FnMore", spec := "fnMore", inPlace := ["internal/abi.NoEscape", "internal/bytealg.MakeNoZero"], unfollowed := true, recurses := true, named := ["internal/strconv.uint64pow10", "math/bits.deBruijn32tab", "math/bits.deBruijn64tab"], apart := false, laid := [("math/bits.deBruijn32tab", laid_math_bits_deBruijn32tab), ("math/bits.deBruijn64tab", laid_math_bits_deBruijn64tab), ("internal/strconv.uint64pow10", laid_internal_strconv_uint64pow10)] }
def FnMoreSaid : Prop := fnMoreRow.holds Tryd.pinned (OpenSpec.ofChange fnMoreSpec)

/-- ITS FALSE NEIGHBOUR: 'it returns false'. Refute it at one input. -/
def fnMoreWrong : ChangeSpec := { name := "fnMore", fn := fun _ => fun
  | [d1, d2, d3] => { results := [.lit (.bool false)], args := [d1, d2, d3] }
  | _ => none }
def FnMoreWrongFalsely : Prop := fnMoreRow.holds Tryd.pinned (OpenSpec.ofChange fnMoreWrong)

/-- 'laws.FnParse': WHATEVER THE INPUT: true; the input reads as it did. -/
def fnParseSpec : ChangeSpec := { name := "fnParse", fn := fun _ => fun
  | [d] => { results := [.lit (.bool true)], args := [d] }
  | _ => none }
def fnParseRow : OpenClaim := { program := "ythpfladpbfbpjaadoor", sum := "616c7213887241c299a50f176ba052695b7053753b38232410b9ca6788f94cb7", func := "loop.example/pub-graphsofrules/laws.FnParse", spec := "fnParse", inPlace := ["internal/abi.NoEscape", "internal/bytealg.MakeNoZero"], unfollowed := true, recurses := true, named := ["internal/strconv.uint64pow10", "math/bits.deBruijn32tab", "math/bits.deBruijn64tab"], apart := false, laid := [("math/bits.deBruijn32tab", laid_math_bits_deBruijn32tab), ("math/bits.deBruijn64tab", laid_math_bits_deBruijn64tab), ("internal/strconv.uint64pow10", laid_internal_strconv_uint64pow10)] }
def FnParseSaid : Prop := fnParseRow.holds Tryd.pinned (OpenSpec.ofChange fnParseSpec)

/-- ITS FALSE NEIGHBOUR: 'it returns false'. Refute it at one input. -/
def fnParseWrong : ChangeSpec := { name := "fnParse", fn := fun _ => fun
  | [d] => { results := [.lit (.bool false)], args := [d] }
  | _ => none }
def FnParseWrongFalsely : Prop := fnParseRow.holds Tryd.pinned (OpenSpec.ofChange fnParseWrong)

/-- 'laws.FnParseOrder': WHATEVER THE INPUT: true; the input reads as it did. -/
def fnParseOrderSpec : ChangeSpec := { name := "fnParseOrder", fn := fun _ => fun
  | [d] => { results := [.lit (.bool true)], args := [d] }
  | _ => none }
def fnParseOrderRow : OpenClaim := { program := "ythpfladpbfbpjaadoor", sum := "616c7213887241c299a50f176ba052695b7053753b38232410b9ca6788f94cb7", func := "loop.example/pub-graphsofrules/laws.FnParseOrder", spec := "fnParseOrder", inPlace := ["internal/abi.NoEscape", "internal/bytealg.MakeNoZero"], unfollowed := true, recurses := true, named := ["internal/strconv.uint64pow10", "math/bits.deBruijn32tab", "math/bits.deBruijn64tab"], apart := false, laid := [("math/bits.deBruijn32tab", laid_math_bits_deBruijn32tab), ("math/bits.deBruijn64tab", laid_math_bits_deBruijn64tab), ("internal/strconv.uint64pow10", laid_internal_strconv_uint64pow10)] }
def FnParseOrderSaid : Prop := fnParseOrderRow.holds Tryd.pinned (OpenSpec.ofChange fnParseOrderSpec)

/-- ITS FALSE NEIGHBOUR: 'it returns false'. Refute it at one input. -/
def fnParseOrderWrong : ChangeSpec := { name := "fnParseOrder", fn := fun _ => fun
  | [d] => { results := [.lit (.bool false)], args := [d] }
  | _ => none }
def FnParseOrderWrongFalsely : Prop := fnParseOrderRow.holds Tryd.pinned (OpenSpec.ofChange fnParseOrderWrong)

/-- 'laws.FnRefuse': WHATEVER THE INPUT: true; the input reads as it did. -/
def fnRefuseSpec : ChangeSpec := { name := "fnRefuse", fn := fun _ => fun
  | [d] => { results := [.lit (.bool true)], args := [d] }
  | _ => none }
def fnRefuseRow : OpenClaim := { program := "ythpfladpbfbpjaadoor", sum := "616c7213887241c299a50f176ba052695b7053753b38232410b9ca6788f94cb7", func := "loop.example/pub-graphsofrules/laws.FnRefuse", spec := "fnRefuse", inPlace := ["internal/abi.NoEscape", "internal/bytealg.MakeNoZero"], unfollowed := true, recurses := true, named := ["internal/strconv.uint64pow10", "math/bits.deBruijn32tab", "math/bits.deBruijn64tab"], apart := false, laid := [("math/bits.deBruijn32tab", laid_math_bits_deBruijn32tab), ("math/bits.deBruijn64tab", laid_math_bits_deBruijn64tab), ("internal/strconv.uint64pow10", laid_internal_strconv_uint64pow10)] }
def FnRefuseSaid : Prop := fnRefuseRow.holds Tryd.pinned (OpenSpec.ofChange fnRefuseSpec)

/-- ITS FALSE NEIGHBOUR: 'it returns false'. Refute it at one input. -/
def fnRefuseWrong : ChangeSpec := { name := "fnRefuse", fn := fun _ => fun
  | [d] => { results := [.lit (.bool false)], args := [d] }
  | _ => none }
def FnRefuseWrongFalsely : Prop := fnRefuseRow.holds Tryd.pinned (OpenSpec.ofChange fnRefuseWrong)

/-- 'laws.FnSpaced': WHATEVER THE INPUT: true; the input reads as it did. -/
def fnSpacedSpec : ChangeSpec := { name := "fnSpaced", fn := fun _ => fun
  | [d1, d2] => { results := [.lit (.bool true)], args := [d1, d2] }
  | _ => none }
def fnSpacedRow : OpenClaim := { program := "ythpfladpbfbpjaadoor", sum := "616c7213887241c299a50f176ba052695b7053753b38232410b9ca6788f94cb7", func := "loop.example/pub-graphsofrules/laws.FnSpaced", spec := "fnSpaced", inPlace := ["internal/abi.NoEscape", "internal/bytealg.MakeNoZero"], unfollowed := true, recurses := true, named := ["internal/strconv.uint64pow10", "math/bits.deBruijn32tab", "math/bits.deBruijn64tab"], apart := false, laid := [("math/bits.deBruijn32tab", laid_math_bits_deBruijn32tab), ("math/bits.deBruijn64tab", laid_math_bits_deBruijn64tab), ("internal/strconv.uint64pow10", laid_internal_strconv_uint64pow10)] }
def FnSpacedSaid : Prop := fnSpacedRow.holds Tryd.pinned (OpenSpec.ofChange fnSpacedSpec)

/-- ITS FALSE NEIGHBOUR: 'it returns false'. Refute it at one input. -/
def fnSpacedWrong : ChangeSpec := { name := "fnSpaced", fn := fun _ => fun
  | [d1, d2] => { results := [.lit (.bool false)], args := [d1, d2] }
  | _ => none }
def FnSpacedWrongFalsely : Prop := fnSpacedRow.holds Tryd.pinned (OpenSpec.ofChange fnSpacedWrong)

/- THE SECOND FORM. 'bulk': how many values and letters a reading holds, each counted each time it is reached (what is shared counts as often as it is met; a slice's spare places count too). A statement '..UptoSaid' is the law's where the arguments, and the package variables that the reading takes, are together of bulk at most 1048576: NARROWER than '..Said'. Prove '..Said' where nothing that the law and all that it calls make is longer than what came in: it says more and counts as full. Else prove '..UptoSaid'. A law counts once. -/
mutual
def uptoBulk {H : Type} : DataW H → Nat
  | .lit (.string bytes) => bytes.length + 1
  | .lit _ => 1
  | .nil => 1
  | .ptr d => uptoBulk d + 1
  | .slice elems spare => uptoBulkAll elems + uptoBulkAll spare + 1
  | .agg parts => uptoBulkAll parts + 1
  | .iface _ d => uptoBulk d + 1
  | .map entries => uptoBulkEntries entries + 1
  | .held _ => 1
def uptoBulkAll {H : Type} : List (DataW H) → Nat
  | [] => 0
  | d :: r => uptoBulk d + uptoBulkAll r
def uptoBulkEntries {H : Type} : List (Lit × DataW H) → Nat
  | [] => 0
  | x :: r => uptoBulkEntry x + uptoBulkEntries r
def uptoBulkEntry {H : Type} : Lit × DataW H → Nat
  | (.string bytes, d) => bytes.length + uptoBulk d + 1
  | (_, d) => uptoBulk d + 1
 end
def uptoSmall : (H : Type) → List (DataW H) → Bool := fun _ ds => decide (uptoBulkAll ds ≤ 1048576)
def OpenSpec.upto (s : _root_.Go.ChangeSpec) : _root_.Go.OpenSpec := { _root_.Go.OpenSpec.ofChange s with cond := some uptoSmall }

/-- 'laws.FnWritten', WHERE WHAT IT READS IS OF BULK AT MOST 1048576: true; the input reads as it did. -/
def fnWrittenUptoRow : OpenClaim := { program := "ythpfladpbfbpjaadoor", sum := "616c7213887241c299a50f176ba052695b7053753b38232410b9ca6788f94cb7", func := "loop.example/pub-graphsofrules/laws.FnWritten", spec := "fnWritten", inPlace := ["internal/abi.NoEscape", "internal/bytealg.MakeNoZero"], unfollowed := true, recurses := true, named := ["internal/strconv.uint64pow10", "math/bits.deBruijn32tab", "math/bits.deBruijn64tab"], apart := false, laid := [("math/bits.deBruijn32tab", laid_math_bits_deBruijn32tab), ("math/bits.deBruijn64tab", laid_math_bits_deBruijn64tab), ("internal/strconv.uint64pow10", laid_internal_strconv_uint64pow10)], narrowed := true }
def FnWrittenUptoSaid : Prop := fnWrittenUptoRow.holds Tryd.pinned (OpenSpec.upto fnWrittenSpec)

/-- 'laws.FnParseTopo', WHERE WHAT IT READS IS OF BULK AT MOST 1048576: true; the input reads as it did. -/
def fnParseTopoUptoRow : OpenClaim := { program := "ythpfladpbfbpjaadoor", sum := "616c7213887241c299a50f176ba052695b7053753b38232410b9ca6788f94cb7", func := "loop.example/pub-graphsofrules/laws.FnParseTopo", spec := "fnParseTopo", inPlace := ["internal/abi.NoEscape", "internal/bytealg.MakeNoZero"], unfollowed := true, recurses := true, named := ["internal/strconv.uint64pow10", "math/bits.deBruijn32tab", "math/bits.deBruijn64tab"], apart := false, laid := [("math/bits.deBruijn32tab", laid_math_bits_deBruijn32tab), ("math/bits.deBruijn64tab", laid_math_bits_deBruijn64tab), ("internal/strconv.uint64pow10", laid_internal_strconv_uint64pow10)], narrowed := true }
def FnParseTopoUptoSaid : Prop := fnParseTopoUptoRow.holds Tryd.pinned (OpenSpec.upto fnParseTopoSpec)

/-- 'laws.FnParseReduced', WHERE WHAT IT READS IS OF BULK AT MOST 1048576: true; the input reads as it did. -/
def fnParseReducedUptoRow : OpenClaim := { program := "ythpfladpbfbpjaadoor", sum := "616c7213887241c299a50f176ba052695b7053753b38232410b9ca6788f94cb7", func := "loop.example/pub-graphsofrules/laws.FnParseReduced", spec := "fnParseReduced", inPlace := ["internal/abi.NoEscape", "internal/bytealg.MakeNoZero"], unfollowed := true, recurses := true, named := ["internal/strconv.uint64pow10", "math/bits.deBruijn32tab", "math/bits.deBruijn64tab"], apart := false, laid := [("math/bits.deBruijn32tab", laid_math_bits_deBruijn32tab), ("math/bits.deBruijn64tab", laid_math_bits_deBruijn64tab), ("internal/strconv.uint64pow10", laid_internal_strconv_uint64pow10)], narrowed := true }
def FnParseReducedUptoSaid : Prop := fnParseReducedUptoRow.holds Tryd.pinned (OpenSpec.upto fnParseReducedSpec)

/-- 'laws.FnBar', WHERE WHAT IT READS IS OF BULK AT MOST 1048576: true; the input reads as it did. -/
def fnBarUptoRow : OpenClaim := { program := "ythpfladpbfbpjaadoor", sum := "616c7213887241c299a50f176ba052695b7053753b38232410b9ca6788f94cb7", func := "loop.example/pub-graphsofrules/laws.FnBar", spec := "fnBar", inPlace := ["internal/abi.NoEscape", "internal/bytealg.MakeNoZero"], unfollowed := true, recurses := true, named := ["internal/strconv.uint64pow10", "math/bits.deBruijn32tab", "math/bits.deBruijn64tab"], apart := false, laid := [("math/bits.deBruijn32tab", laid_math_bits_deBruijn32tab), ("math/bits.deBruijn64tab", laid_math_bits_deBruijn64tab), ("internal/strconv.uint64pow10", laid_internal_strconv_uint64pow10)], narrowed := true }
def FnBarUptoSaid : Prop := fnBarUptoRow.holds Tryd.pinned (OpenSpec.upto fnBarSpec)

/-- 'laws.FnBarAhead', WHERE WHAT IT READS IS OF BULK AT MOST 1048576: true; the input reads as it did. -/
def fnBarAheadUptoRow : OpenClaim := { program := "ythpfladpbfbpjaadoor", sum := "616c7213887241c299a50f176ba052695b7053753b38232410b9ca6788f94cb7", func := "loop.example/pub-graphsofrules/laws.FnBarAhead", spec := "fnBarAhead", inPlace := ["internal/abi.NoEscape", "internal/bytealg.MakeNoZero"], unfollowed := true, recurses := true, named := ["internal/strconv.uint64pow10", "math/bits.deBruijn32tab", "math/bits.deBruijn64tab"], apart := false, laid := [("math/bits.deBruijn32tab", laid_math_bits_deBruijn32tab), ("math/bits.deBruijn64tab", laid_math_bits_deBruijn64tab), ("internal/strconv.uint64pow10", laid_internal_strconv_uint64pow10)], narrowed := true }
def FnBarAheadUptoSaid : Prop := fnBarAheadUptoRow.holds Tryd.pinned (OpenSpec.upto fnBarAheadSpec)

/-- 'laws.FnChain', WHERE WHAT IT READS IS OF BULK AT MOST 1048576: true; the input reads as it did. -/
def fnChainUptoRow : OpenClaim := { program := "ythpfladpbfbpjaadoor", sum := "616c7213887241c299a50f176ba052695b7053753b38232410b9ca6788f94cb7", func := "loop.example/pub-graphsofrules/laws.FnChain", spec := "fnChain", inPlace := ["internal/abi.NoEscape", "internal/bytealg.MakeNoZero"], unfollowed := true, recurses := true, named := ["internal/strconv.uint64pow10", "math/bits.deBruijn32tab", "math/bits.deBruijn64tab"], apart := false, laid := [("math/bits.deBruijn32tab", laid_math_bits_deBruijn32tab), ("math/bits.deBruijn64tab", laid_math_bits_deBruijn64tab), ("internal/strconv.uint64pow10", laid_internal_strconv_uint64pow10)], narrowed := true }
def FnChainUptoSaid : Prop := fnChainUptoRow.holds Tryd.pinned (OpenSpec.upto fnChainSpec)

/-- 'laws.FnClosed', WHERE WHAT IT READS IS OF BULK AT MOST 1048576: true; the input reads as it did. -/
def fnClosedUptoRow : OpenClaim := { program := "ythpfladpbfbpjaadoor", sum := "616c7213887241c299a50f176ba052695b7053753b38232410b9ca6788f94cb7", func := "loop.example/pub-graphsofrules/laws.FnClosed", spec := "fnClosed", inPlace := ["internal/abi.NoEscape", "internal/bytealg.MakeNoZero"], unfollowed := true, recurses := true, named := ["internal/strconv.uint64pow10", "math/bits.deBruijn32tab", "math/bits.deBruijn64tab"], apart := false, laid := [("math/bits.deBruijn32tab", laid_math_bits_deBruijn32tab), ("math/bits.deBruijn64tab", laid_math_bits_deBruijn64tab), ("internal/strconv.uint64pow10", laid_internal_strconv_uint64pow10)], narrowed := true }
def FnClosedUptoSaid : Prop := fnClosedUptoRow.holds Tryd.pinned (OpenSpec.upto fnClosedSpec)

/-- 'laws.FnMore', WHERE WHAT IT READS IS OF BULK AT MOST 1048576: true; the input reads as it did. -/
def fnMoreUptoRow : OpenClaim := { program := "ythpfladpbfbpjaadoor", sum := "616c7213887241c299a50f176ba052695b7053753b38232410b9ca6788f94cb7", func := "loop.example/pub-graphsofrules/laws.FnMore", spec := "fnMore", inPlace := ["internal/abi.NoEscape", "internal/bytealg.MakeNoZero"], unfollowed := true, recurses := true, named := ["internal/strconv.uint64pow10", "math/bits.deBruijn32tab", "math/bits.deBruijn64tab"], apart := false, laid := [("math/bits.deBruijn32tab", laid_math_bits_deBruijn32tab), ("math/bits.deBruijn64tab", laid_math_bits_deBruijn64tab), ("internal/strconv.uint64pow10", laid_internal_strconv_uint64pow10)], narrowed := true }
def FnMoreUptoSaid : Prop := fnMoreUptoRow.holds Tryd.pinned (OpenSpec.upto fnMoreSpec)

/-- 'laws.FnParse', WHERE WHAT IT READS IS OF BULK AT MOST 1048576: true; the input reads as it did. -/
def fnParseUptoRow : OpenClaim := { program := "ythpfladpbfbpjaadoor", sum := "616c7213887241c299a50f176ba052695b7053753b38232410b9ca6788f94cb7", func := "loop.example/pub-graphsofrules/laws.FnParse", spec := "fnParse", inPlace := ["internal/abi.NoEscape", "internal/bytealg.MakeNoZero"], unfollowed := true, recurses := true, named := ["internal/strconv.uint64pow10", "math/bits.deBruijn32tab", "math/bits.deBruijn64tab"], apart := false, laid := [("math/bits.deBruijn32tab", laid_math_bits_deBruijn32tab), ("math/bits.deBruijn64tab", laid_math_bits_deBruijn64tab), ("internal/strconv.uint64pow10", laid_internal_strconv_uint64pow10)], narrowed := true }
def FnParseUptoSaid : Prop := fnParseUptoRow.holds Tryd.pinned (OpenSpec.upto fnParseSpec)

/-- 'laws.FnParseOrder', WHERE WHAT IT READS IS OF BULK AT MOST 1048576: true; the input reads as it did. -/
def fnParseOrderUptoRow : OpenClaim := { program := "ythpfladpbfbpjaadoor", sum := "616c7213887241c299a50f176ba052695b7053753b38232410b9ca6788f94cb7", func := "loop.example/pub-graphsofrules/laws.FnParseOrder", spec := "fnParseOrder", inPlace := ["internal/abi.NoEscape", "internal/bytealg.MakeNoZero"], unfollowed := true, recurses := true, named := ["internal/strconv.uint64pow10", "math/bits.deBruijn32tab", "math/bits.deBruijn64tab"], apart := false, laid := [("math/bits.deBruijn32tab", laid_math_bits_deBruijn32tab), ("math/bits.deBruijn64tab", laid_math_bits_deBruijn64tab), ("internal/strconv.uint64pow10", laid_internal_strconv_uint64pow10)], narrowed := true }
def FnParseOrderUptoSaid : Prop := fnParseOrderUptoRow.holds Tryd.pinned (OpenSpec.upto fnParseOrderSpec)

/-- 'laws.FnRefuse', WHERE WHAT IT READS IS OF BULK AT MOST 1048576: true; the input reads as it did. -/
def fnRefuseUptoRow : OpenClaim := { program := "ythpfladpbfbpjaadoor", sum := "616c7213887241c299a50f176ba052695b7053753b38232410b9ca6788f94cb7", func := "loop.example/pub-graphsofrules/laws.FnRefuse", spec := "fnRefuse", inPlace := ["internal/abi.NoEscape", "internal/bytealg.MakeNoZero"], unfollowed := true, recurses := true, named := ["internal/strconv.uint64pow10", "math/bits.deBruijn32tab", "math/bits.deBruijn64tab"], apart := false, laid := [("math/bits.deBruijn32tab", laid_math_bits_deBruijn32tab), ("math/bits.deBruijn64tab", laid_math_bits_deBruijn64tab), ("internal/strconv.uint64pow10", laid_internal_strconv_uint64pow10)], narrowed := true }
def FnRefuseUptoSaid : Prop := fnRefuseUptoRow.holds Tryd.pinned (OpenSpec.upto fnRefuseSpec)

/-- 'laws.FnSpaced', WHERE WHAT IT READS IS OF BULK AT MOST 1048576: true; the input reads as it did. -/
def fnSpacedUptoRow : OpenClaim := { program := "ythpfladpbfbpjaadoor", sum := "616c7213887241c299a50f176ba052695b7053753b38232410b9ca6788f94cb7", func := "loop.example/pub-graphsofrules/laws.FnSpaced", spec := "fnSpaced", inPlace := ["internal/abi.NoEscape", "internal/bytealg.MakeNoZero"], unfollowed := true, recurses := true, named := ["internal/strconv.uint64pow10", "math/bits.deBruijn32tab", "math/bits.deBruijn64tab"], apart := false, laid := [("math/bits.deBruijn32tab", laid_math_bits_deBruijn32tab), ("math/bits.deBruijn64tab", laid_math_bits_deBruijn64tab), ("internal/strconv.uint64pow10", laid_internal_strconv_uint64pow10)], narrowed := true }
def FnSpacedUptoSaid : Prop := fnSpacedUptoRow.holds Tryd.pinned (OpenSpec.upto fnSpacedSpec)

end Rows
end Go.Proofs.YthpfladpbfbpjaaDoor
