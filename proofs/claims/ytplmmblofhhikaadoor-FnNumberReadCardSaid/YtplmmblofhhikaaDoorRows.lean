/-
  NARROWER THAN 'FOR EVERY INPUT', by the rows' own cells (each row's printed sentence says how): FnMakeNumber: laid · FnNumberRead: laid · FnMakePair: laid · FnPairRead: laid · FnMakeList: laid · FnMakeModes: laid · FnModesApart: laid · FnMakeRequest: laid · FnMakeReport: laid · FnSixel: laid · FnMouseSgr: laid · FnCharset: laid.
  DERIVED. THE GIVEN ROWS OF THIS SEAT. 12 by the template 'for every input the law returns true; each argument reads behind the call as it read before'; 0 by the template 'total and deterministic' (their statements: YtplmmblofhhikaaDoorTotals.lean).
  GIVEN WITH THE SEED: the statements are not yours to turn. If you find one false, say at which input.
  Laid BY PROGRAM, IN A SANDBOX (cutbox-rows.mjs): the forced cells as the released guide's own fill.sh prints them over the translation 1a6ff292b6ef68a5… (all of the seat's roots in one cut). By AI agents, Wed Nov 11 2026. No macro, syntax, notation, axiom, sorry.
-/
import Derived.Test.YtplmmblofhhikaaDoorChecked
import GoSem.Claim
import GoSem.ClaimJoined
import GoSem.ClaimMapViews
import Derived.JoinedTies
import Derived.KernelRfl
namespace Go.Proofs.YtplmmblofhhikaaDoor
/- THE CELL 'sum', in the pinned program and in every row, IS THE sha256 OF THE DUMP (.gsa) THAT YtplmmblofhhikaaDoorProg.lean LOADS. Nothing in Lean hashes anything: it is a label: what it is worth is what the hold of that sum in a sandbox is worth. -/
noncomputable def Tryd.pinned : Pinned := { name := "ytplmmblofhhikaadoor", sum := "1a6ff292b6ef68a5884b2f86e8a365f4e524a0673a174ca4f6b18c7066a8aeb6", checked := Tryd.checked }
namespace Rows
def none {H : Type} : Left H := { results := [], args := [] }

/- WHAT THE LISTED PACKAGE-LEVEL VARIABLES READ AS WHEN THE CALL BEGINS. Each datum BY PROGRAM (the guide's laid-datum.mjs) off the statement by which the dump's own 'gosem.cut.vars' lays the variable. In a bare row this is a premise. The card (YtplmmblofhhikaaDoorCards.lean) ties it to the program's text. -/
def laid_math_bits_deBruijn32tab {H : Type} : DataW H := .agg [.lit (.int .u8 0), .lit (.int .u8 1), .lit (.int .u8 28), .lit (.int .u8 2), .lit (.int .u8 29), .lit (.int .u8 14), .lit (.int .u8 24), .lit (.int .u8 3), .lit (.int .u8 30), .lit (.int .u8 22), .lit (.int .u8 20), .lit (.int .u8 15), .lit (.int .u8 25), .lit (.int .u8 17), .lit (.int .u8 4), .lit (.int .u8 8), .lit (.int .u8 31), .lit (.int .u8 27), .lit (.int .u8 13), .lit (.int .u8 23), .lit (.int .u8 21), .lit (.int .u8 19), .lit (.int .u8 16), .lit (.int .u8 7), .lit (.int .u8 26), .lit (.int .u8 12), .lit (.int .u8 18), .lit (.int .u8 6), .lit (.int .u8 11), .lit (.int .u8 5), .lit (.int .u8 10), .lit (.int .u8 9)]
def laid_math_bits_deBruijn64tab {H : Type} : DataW H := .agg [.lit (.int .u8 0), .lit (.int .u8 1), .lit (.int .u8 56), .lit (.int .u8 2), .lit (.int .u8 57), .lit (.int .u8 49), .lit (.int .u8 28), .lit (.int .u8 3), .lit (.int .u8 61), .lit (.int .u8 58), .lit (.int .u8 42), .lit (.int .u8 50), .lit (.int .u8 38), .lit (.int .u8 29), .lit (.int .u8 17), .lit (.int .u8 4), .lit (.int .u8 62), .lit (.int .u8 47), .lit (.int .u8 59), .lit (.int .u8 36), .lit (.int .u8 45), .lit (.int .u8 43), .lit (.int .u8 51), .lit (.int .u8 22), .lit (.int .u8 53), .lit (.int .u8 39), .lit (.int .u8 33), .lit (.int .u8 30), .lit (.int .u8 24), .lit (.int .u8 18), .lit (.int .u8 12), .lit (.int .u8 5), .lit (.int .u8 63), .lit (.int .u8 55), .lit (.int .u8 48), .lit (.int .u8 27), .lit (.int .u8 60), .lit (.int .u8 41), .lit (.int .u8 37), .lit (.int .u8 16), .lit (.int .u8 46), .lit (.int .u8 35), .lit (.int .u8 44), .lit (.int .u8 21), .lit (.int .u8 52), .lit (.int .u8 32), .lit (.int .u8 23), .lit (.int .u8 11), .lit (.int .u8 54), .lit (.int .u8 26), .lit (.int .u8 40), .lit (.int .u8 15), .lit (.int .u8 34), .lit (.int .u8 20), .lit (.int .u8 31), .lit (.int .u8 10), .lit (.int .u8 25), .lit (.int .u8 14), .lit (.int .u8 19), .lit (.int .u8 9), .lit (.int .u8 13), .lit (.int .u8 8), .lit (.int .u8 7), .lit (.int .u8 6)]
def laid_internal_strconv_uint64pow10 {H : Type} : DataW H := .agg [.lit (.int .u64 1), .lit (.int .u64 10), .lit (.int .u64 100), .lit (.int .u64 1000), .lit (.int .u64 10000), .lit (.int .u64 100000), .lit (.int .u64 1000000), .lit (.int .u64 10000000), .lit (.int .u64 100000000), .lit (.int .u64 1000000000), .lit (.int .u64 10000000000), .lit (.int .u64 100000000000), .lit (.int .u64 1000000000000), .lit (.int .u64 10000000000000), .lit (.int .u64 100000000000000), .lit (.int .u64 1000000000000000), .lit (.int .u64 10000000000000000), .lit (.int .u64 100000000000000000), .lit (.int .u64 1000000000000000000), .lit (.int .u64 10000000000000000000)]
def laid_bytes_ErrTooLarge {H : Type} : DataW H := .iface "*errors.errorString" (.ptr (.agg [.lit (.string [98, 121, 116, 101, 115, 46, 66, 117, 102, 102, 101, 114, 58, 32, 116, 111, 111, 32, 108, 97, 114, 103, 101])]))

/-- 'laws.FnMakeNumber': WHATEVER THE INPUT: true; the input reads as it did. -/
def fnMakeNumberSpec : ChangeSpec := { name := "fnMakeNumber", fn := fun _ => fun
  | [d1, d2] => { results := [.lit (.bool true)], args := [d1, d2] }
  | _ => none }
def fnMakeNumberRow : OpenClaim := { program := "ytplmmblofhhikaadoor", sum := "1a6ff292b6ef68a5884b2f86e8a365f4e524a0673a174ca4f6b18c7066a8aeb6", func := "pub-escapade/laws.FnMakeNumber", spec := "fnMakeNumber", recurses := true, named := ["internal/strconv.uint64pow10", "math/bits.deBruijn32tab", "math/bits.deBruijn64tab"], apart := false, laid := [("math/bits.deBruijn32tab", laid_math_bits_deBruijn32tab), ("math/bits.deBruijn64tab", laid_math_bits_deBruijn64tab), ("internal/strconv.uint64pow10", laid_internal_strconv_uint64pow10)] }
def FnMakeNumberSaid : Prop := fnMakeNumberRow.holds Tryd.pinned (OpenSpec.ofChange fnMakeNumberSpec)

/-- ITS FALSE NEIGHBOUR: 'it returns false'. Refute it at one input. -/
def fnMakeNumberWrong : ChangeSpec := { name := "fnMakeNumber", fn := fun _ => fun
  | [d1, d2] => { results := [.lit (.bool false)], args := [d1, d2] }
  | _ => none }
def FnMakeNumberWrongFalsely : Prop := fnMakeNumberRow.holds Tryd.pinned (OpenSpec.ofChange fnMakeNumberWrong)

/-- 'laws.FnNumberRead': WHATEVER THE INPUT: true; the input reads as it did. -/
def fnNumberReadSpec : ChangeSpec := { name := "fnNumberRead", fn := fun _ => fun
  | [d1, d2] => { results := [.lit (.bool true)], args := [d1, d2] }
  | _ => none }
def fnNumberReadRow : OpenClaim := { program := "ytplmmblofhhikaadoor", sum := "1a6ff292b6ef68a5884b2f86e8a365f4e524a0673a174ca4f6b18c7066a8aeb6", func := "pub-escapade/laws.FnNumberRead", spec := "fnNumberRead", named := ["internal/strconv.uint64pow10", "math/bits.deBruijn32tab", "math/bits.deBruijn64tab"], apart := false, laid := [("math/bits.deBruijn32tab", laid_math_bits_deBruijn32tab), ("math/bits.deBruijn64tab", laid_math_bits_deBruijn64tab), ("internal/strconv.uint64pow10", laid_internal_strconv_uint64pow10)] }
def FnNumberReadSaid : Prop := fnNumberReadRow.holds Tryd.pinned (OpenSpec.ofChange fnNumberReadSpec)

/-- ITS FALSE NEIGHBOUR: 'it returns false'. Refute it at one input. -/
def fnNumberReadWrong : ChangeSpec := { name := "fnNumberRead", fn := fun _ => fun
  | [d1, d2] => { results := [.lit (.bool false)], args := [d1, d2] }
  | _ => none }
def FnNumberReadWrongFalsely : Prop := fnNumberReadRow.holds Tryd.pinned (OpenSpec.ofChange fnNumberReadWrong)

/-- 'laws.FnMakePair': WHATEVER THE INPUT: true; the input reads as it did. -/
def fnMakePairSpec : ChangeSpec := { name := "fnMakePair", fn := fun _ => fun
  | [d1, d2, d3] => { results := [.lit (.bool true)], args := [d1, d2, d3] }
  | _ => none }
def fnMakePairRow : OpenClaim := { program := "ytplmmblofhhikaadoor", sum := "1a6ff292b6ef68a5884b2f86e8a365f4e524a0673a174ca4f6b18c7066a8aeb6", func := "pub-escapade/laws.FnMakePair", spec := "fnMakePair", recurses := true, named := ["internal/strconv.uint64pow10", "math/bits.deBruijn32tab", "math/bits.deBruijn64tab"], apart := false, laid := [("math/bits.deBruijn32tab", laid_math_bits_deBruijn32tab), ("math/bits.deBruijn64tab", laid_math_bits_deBruijn64tab), ("internal/strconv.uint64pow10", laid_internal_strconv_uint64pow10)] }
def FnMakePairSaid : Prop := fnMakePairRow.holds Tryd.pinned (OpenSpec.ofChange fnMakePairSpec)

/-- ITS FALSE NEIGHBOUR: 'it returns false'. Refute it at one input. -/
def fnMakePairWrong : ChangeSpec := { name := "fnMakePair", fn := fun _ => fun
  | [d1, d2, d3] => { results := [.lit (.bool false)], args := [d1, d2, d3] }
  | _ => none }
def FnMakePairWrongFalsely : Prop := fnMakePairRow.holds Tryd.pinned (OpenSpec.ofChange fnMakePairWrong)

/-- 'laws.FnPairRead': WHATEVER THE INPUT: true; the input reads as it did. -/
def fnPairReadSpec : ChangeSpec := { name := "fnPairRead", fn := fun _ => fun
  | [d1, d2, d3] => { results := [.lit (.bool true)], args := [d1, d2, d3] }
  | _ => none }
def fnPairReadRow : OpenClaim := { program := "ytplmmblofhhikaadoor", sum := "1a6ff292b6ef68a5884b2f86e8a365f4e524a0673a174ca4f6b18c7066a8aeb6", func := "pub-escapade/laws.FnPairRead", spec := "fnPairRead", named := ["internal/strconv.uint64pow10", "math/bits.deBruijn32tab", "math/bits.deBruijn64tab"], apart := false, laid := [("math/bits.deBruijn32tab", laid_math_bits_deBruijn32tab), ("math/bits.deBruijn64tab", laid_math_bits_deBruijn64tab), ("internal/strconv.uint64pow10", laid_internal_strconv_uint64pow10)] }
def FnPairReadSaid : Prop := fnPairReadRow.holds Tryd.pinned (OpenSpec.ofChange fnPairReadSpec)

/-- ITS FALSE NEIGHBOUR: 'it returns false'. Refute it at one input. -/
def fnPairReadWrong : ChangeSpec := { name := "fnPairRead", fn := fun _ => fun
  | [d1, d2, d3] => { results := [.lit (.bool false)], args := [d1, d2, d3] }
  | _ => none }
def FnPairReadWrongFalsely : Prop := fnPairReadRow.holds Tryd.pinned (OpenSpec.ofChange fnPairReadWrong)

/-- 'laws.FnMakeList': WHATEVER THE INPUT: true; the input reads as it did. -/
def fnMakeListSpec : ChangeSpec := { name := "fnMakeList", fn := fun _ => fun
  | [d1, d2] => { results := [.lit (.bool true)], args := [d1, d2] }
  | _ => none }
def fnMakeListRow : OpenClaim := { program := "ytplmmblofhhikaadoor", sum := "1a6ff292b6ef68a5884b2f86e8a365f4e524a0673a174ca4f6b18c7066a8aeb6", func := "pub-escapade/laws.FnMakeList", spec := "fnMakeList", recurses := true, named := ["internal/strconv.uint64pow10", "math/bits.deBruijn32tab", "math/bits.deBruijn64tab"], apart := false, laid := [("math/bits.deBruijn32tab", laid_math_bits_deBruijn32tab), ("math/bits.deBruijn64tab", laid_math_bits_deBruijn64tab), ("internal/strconv.uint64pow10", laid_internal_strconv_uint64pow10)] }
def FnMakeListSaid : Prop := fnMakeListRow.holds Tryd.pinned (OpenSpec.ofChange fnMakeListSpec)

/-- ITS FALSE NEIGHBOUR: 'it returns false'. Refute it at one input. -/
def fnMakeListWrong : ChangeSpec := { name := "fnMakeList", fn := fun _ => fun
  | [d1, d2] => { results := [.lit (.bool false)], args := [d1, d2] }
  | _ => none }
def FnMakeListWrongFalsely : Prop := fnMakeListRow.holds Tryd.pinned (OpenSpec.ofChange fnMakeListWrong)

/-- 'laws.FnMakeModes': WHATEVER THE INPUT: true; the input reads as it did. -/
def fnMakeModesSpec : ChangeSpec := { name := "fnMakeModes", fn := fun _ => fun
  | [d1, d2] => { results := [.lit (.bool true)], args := [d1, d2] }
  | _ => none }
def fnMakeModesRow : OpenClaim := { program := "ytplmmblofhhikaadoor", sum := "1a6ff292b6ef68a5884b2f86e8a365f4e524a0673a174ca4f6b18c7066a8aeb6", func := "pub-escapade/laws.FnMakeModes", spec := "fnMakeModes", unfollowed := true, recurses := true, named := ["internal/strconv.uint64pow10", "math/bits.deBruijn32tab", "math/bits.deBruijn64tab"], apart := false, laid := [("math/bits.deBruijn32tab", laid_math_bits_deBruijn32tab), ("math/bits.deBruijn64tab", laid_math_bits_deBruijn64tab), ("internal/strconv.uint64pow10", laid_internal_strconv_uint64pow10)] }
def FnMakeModesSaid : Prop := fnMakeModesRow.holds Tryd.pinned (OpenSpec.ofChange fnMakeModesSpec)

/-- ITS FALSE NEIGHBOUR: 'it returns false'. Refute it at one input. -/
def fnMakeModesWrong : ChangeSpec := { name := "fnMakeModes", fn := fun _ => fun
  | [d1, d2] => { results := [.lit (.bool false)], args := [d1, d2] }
  | _ => none }
def FnMakeModesWrongFalsely : Prop := fnMakeModesRow.holds Tryd.pinned (OpenSpec.ofChange fnMakeModesWrong)

/-- 'laws.FnModesApart': WHATEVER THE INPUT: true; the input reads as it did. -/
def fnModesApartSpec : ChangeSpec := { name := "fnModesApart", fn := fun _ => fun
  | [d1, d2] => { results := [.lit (.bool true)], args := [d1, d2] }
  | _ => none }
def fnModesApartRow : OpenClaim := { program := "ytplmmblofhhikaadoor", sum := "1a6ff292b6ef68a5884b2f86e8a365f4e524a0673a174ca4f6b18c7066a8aeb6", func := "pub-escapade/laws.FnModesApart", spec := "fnModesApart", unfollowed := true, recurses := true, named := ["internal/strconv.uint64pow10", "math/bits.deBruijn32tab", "math/bits.deBruijn64tab"], apart := false, laid := [("math/bits.deBruijn32tab", laid_math_bits_deBruijn32tab), ("math/bits.deBruijn64tab", laid_math_bits_deBruijn64tab), ("internal/strconv.uint64pow10", laid_internal_strconv_uint64pow10)] }
def FnModesApartSaid : Prop := fnModesApartRow.holds Tryd.pinned (OpenSpec.ofChange fnModesApartSpec)

/-- ITS FALSE NEIGHBOUR: 'it returns false'. Refute it at one input. -/
def fnModesApartWrong : ChangeSpec := { name := "fnModesApart", fn := fun _ => fun
  | [d1, d2] => { results := [.lit (.bool false)], args := [d1, d2] }
  | _ => none }
def FnModesApartWrongFalsely : Prop := fnModesApartRow.holds Tryd.pinned (OpenSpec.ofChange fnModesApartWrong)

/-- 'laws.FnMakeRequest': WHATEVER THE INPUT: true; the input reads as it did. -/
def fnMakeRequestSpec : ChangeSpec := { name := "fnMakeRequest", fn := fun _ => fun
  | [d] => { results := [.lit (.bool true)], args := [d] }
  | _ => none }
def fnMakeRequestRow : OpenClaim := { program := "ytplmmblofhhikaadoor", sum := "1a6ff292b6ef68a5884b2f86e8a365f4e524a0673a174ca4f6b18c7066a8aeb6", func := "pub-escapade/laws.FnMakeRequest", spec := "fnMakeRequest", unfollowed := true, recurses := true, named := ["internal/strconv.uint64pow10", "math/bits.deBruijn32tab", "math/bits.deBruijn64tab"], apart := false, laid := [("math/bits.deBruijn32tab", laid_math_bits_deBruijn32tab), ("math/bits.deBruijn64tab", laid_math_bits_deBruijn64tab), ("internal/strconv.uint64pow10", laid_internal_strconv_uint64pow10)] }
def FnMakeRequestSaid : Prop := fnMakeRequestRow.holds Tryd.pinned (OpenSpec.ofChange fnMakeRequestSpec)

/-- ITS FALSE NEIGHBOUR: 'it returns false'. Refute it at one input. -/
def fnMakeRequestWrong : ChangeSpec := { name := "fnMakeRequest", fn := fun _ => fun
  | [d] => { results := [.lit (.bool false)], args := [d] }
  | _ => none }
def FnMakeRequestWrongFalsely : Prop := fnMakeRequestRow.holds Tryd.pinned (OpenSpec.ofChange fnMakeRequestWrong)

/-- 'laws.FnMakeReport': WHATEVER THE INPUT: true; the input reads as it did. -/
def fnMakeReportSpec : ChangeSpec := { name := "fnMakeReport", fn := fun _ => fun
  | [d1, d2] => { results := [.lit (.bool true)], args := [d1, d2] }
  | _ => none }
def fnMakeReportRow : OpenClaim := { program := "ytplmmblofhhikaadoor", sum := "1a6ff292b6ef68a5884b2f86e8a365f4e524a0673a174ca4f6b18c7066a8aeb6", func := "pub-escapade/laws.FnMakeReport", spec := "fnMakeReport", unfollowed := true, recurses := true, named := ["internal/strconv.uint64pow10", "math/bits.deBruijn32tab", "math/bits.deBruijn64tab"], apart := false, laid := [("math/bits.deBruijn32tab", laid_math_bits_deBruijn32tab), ("math/bits.deBruijn64tab", laid_math_bits_deBruijn64tab), ("internal/strconv.uint64pow10", laid_internal_strconv_uint64pow10)] }
def FnMakeReportSaid : Prop := fnMakeReportRow.holds Tryd.pinned (OpenSpec.ofChange fnMakeReportSpec)

/-- ITS FALSE NEIGHBOUR: 'it returns false'. Refute it at one input. -/
def fnMakeReportWrong : ChangeSpec := { name := "fnMakeReport", fn := fun _ => fun
  | [d1, d2] => { results := [.lit (.bool false)], args := [d1, d2] }
  | _ => none }
def FnMakeReportWrongFalsely : Prop := fnMakeReportRow.holds Tryd.pinned (OpenSpec.ofChange fnMakeReportWrong)

/-- 'laws.FnSixel': WHATEVER THE INPUT: true; the input reads as it did. -/
def fnSixelSpec : ChangeSpec := { name := "fnSixel", fn := fun _ => fun
  | [d1, d2, d3, d4] => { results := [.lit (.bool true)], args := [d1, d2, d3, d4] }
  | _ => none }
def fnSixelRow : OpenClaim := { program := "ytplmmblofhhikaadoor", sum := "1a6ff292b6ef68a5884b2f86e8a365f4e524a0673a174ca4f6b18c7066a8aeb6", func := "pub-escapade/laws.FnSixel", spec := "fnSixel", recurses := true, named := ["internal/strconv.uint64pow10", "math/bits.deBruijn32tab", "math/bits.deBruijn64tab", "bytes.ErrTooLarge"], apart := false, laid := [("math/bits.deBruijn32tab", laid_math_bits_deBruijn32tab), ("math/bits.deBruijn64tab", laid_math_bits_deBruijn64tab), ("internal/strconv.uint64pow10", laid_internal_strconv_uint64pow10), ("bytes.ErrTooLarge", laid_bytes_ErrTooLarge)] }
def FnSixelSaid : Prop := fnSixelRow.holds Tryd.pinned (OpenSpec.ofChange fnSixelSpec)

/-- ITS FALSE NEIGHBOUR: 'it returns false'. Refute it at one input. -/
def fnSixelWrong : ChangeSpec := { name := "fnSixel", fn := fun _ => fun
  | [d1, d2, d3, d4] => { results := [.lit (.bool false)], args := [d1, d2, d3, d4] }
  | _ => none }
def FnSixelWrongFalsely : Prop := fnSixelRow.holds Tryd.pinned (OpenSpec.ofChange fnSixelWrong)

/-- 'laws.FnMouseSgr': WHATEVER THE INPUT: true; the input reads as it did. -/
def fnMouseSgrSpec : ChangeSpec := { name := "fnMouseSgr", fn := fun _ => fun
  | [d1, d2, d3, d4] => { results := [.lit (.bool true)], args := [d1, d2, d3, d4] }
  | _ => none }
def fnMouseSgrRow : OpenClaim := { program := "ytplmmblofhhikaadoor", sum := "1a6ff292b6ef68a5884b2f86e8a365f4e524a0673a174ca4f6b18c7066a8aeb6", func := "pub-escapade/laws.FnMouseSgr", spec := "fnMouseSgr", recurses := true, named := ["internal/strconv.uint64pow10", "math/bits.deBruijn32tab", "math/bits.deBruijn64tab"], apart := false, laid := [("math/bits.deBruijn32tab", laid_math_bits_deBruijn32tab), ("math/bits.deBruijn64tab", laid_math_bits_deBruijn64tab), ("internal/strconv.uint64pow10", laid_internal_strconv_uint64pow10)] }
def FnMouseSgrSaid : Prop := fnMouseSgrRow.holds Tryd.pinned (OpenSpec.ofChange fnMouseSgrSpec)

/-- ITS FALSE NEIGHBOUR: 'it returns false'. Refute it at one input. -/
def fnMouseSgrWrong : ChangeSpec := { name := "fnMouseSgr", fn := fun _ => fun
  | [d1, d2, d3, d4] => { results := [.lit (.bool false)], args := [d1, d2, d3, d4] }
  | _ => none }
def FnMouseSgrWrongFalsely : Prop := fnMouseSgrRow.holds Tryd.pinned (OpenSpec.ofChange fnMouseSgrWrong)

/-- 'laws.FnCharset': WHATEVER THE INPUT: true; the input reads as it did. -/
def fnCharsetSpec : ChangeSpec := { name := "fnCharset", fn := fun _ => fun
  | [d1, d2] => { results := [.lit (.bool true)], args := [d1, d2] }
  | _ => none }
def fnCharsetRow : OpenClaim := { program := "ytplmmblofhhikaadoor", sum := "1a6ff292b6ef68a5884b2f86e8a365f4e524a0673a174ca4f6b18c7066a8aeb6", func := "pub-escapade/laws.FnCharset", spec := "fnCharset", named := ["internal/strconv.uint64pow10", "math/bits.deBruijn32tab", "math/bits.deBruijn64tab"], apart := false, laid := [("math/bits.deBruijn32tab", laid_math_bits_deBruijn32tab), ("math/bits.deBruijn64tab", laid_math_bits_deBruijn64tab), ("internal/strconv.uint64pow10", laid_internal_strconv_uint64pow10)] }
def FnCharsetSaid : Prop := fnCharsetRow.holds Tryd.pinned (OpenSpec.ofChange fnCharsetSpec)

/-- ITS FALSE NEIGHBOUR: 'it returns false'. Refute it at one input. -/
def fnCharsetWrong : ChangeSpec := { name := "fnCharset", fn := fun _ => fun
  | [d1, d2] => { results := [.lit (.bool false)], args := [d1, d2] }
  | _ => none }
def FnCharsetWrongFalsely : Prop := fnCharsetRow.holds Tryd.pinned (OpenSpec.ofChange fnCharsetWrong)

/- THE SECOND FORM. 'bulk': how many values and letters a reading holds, each counted each time it is reached (what is shared counts as often as it is met; a slice's spare places count too). A statement '..UptoSaid' is the law's where the arguments, and the package variables that the reading takes, are together of bulk at most 1048576: NARROWER than '..Said'. Prove '..Said' where nothing that the law and all that it calls make is longer than what came in: it says more and counts as full. Else prove '..UptoSaid'. A law counts once. -/
mutual
def uptoBulk {H : Type} : DataW H → Nat
  | .lit (.string bytes) => bytes.length + 1
  | .lit _ => 1
  | .nil => 1
  | .ptr d => uptoBulk d + 1
  | .slice elems spare => uptoBulkAll elems + uptoBulkAll spare + 1
  | .agg parts => uptoBulkAll parts + 1
  | .iface _ d => uptoBulk d + 1
  | .map entries => uptoBulkEntries entries + 1
  | .held _ => 1
def uptoBulkAll {H : Type} : List (DataW H) → Nat
  | [] => 0
  | d :: r => uptoBulk d + uptoBulkAll r
def uptoBulkEntries {H : Type} : List (Lit × DataW H) → Nat
  | [] => 0
  | x :: r => uptoBulkEntry x + uptoBulkEntries r
def uptoBulkEntry {H : Type} : Lit × DataW H → Nat
  | (.string bytes, d) => bytes.length + uptoBulk d + 1
  | (_, d) => uptoBulk d + 1
 end
def uptoSmall : (H : Type) → List (DataW H) → Bool := fun _ ds => decide (uptoBulkAll ds ≤ 1048576)
def OpenSpec.upto (s : _root_.Go.ChangeSpec) : _root_.Go.OpenSpec := { _root_.Go.OpenSpec.ofChange s with cond := some uptoSmall }

/-- 'laws.FnMakeNumber', WHERE WHAT IT READS IS OF BULK AT MOST 1048576: true; the input reads as it did. -/
def fnMakeNumberUptoRow : OpenClaim := { program := "ytplmmblofhhikaadoor", sum := "1a6ff292b6ef68a5884b2f86e8a365f4e524a0673a174ca4f6b18c7066a8aeb6", func := "pub-escapade/laws.FnMakeNumber", spec := "fnMakeNumber", recurses := true, named := ["internal/strconv.uint64pow10", "math/bits.deBruijn32tab", "math/bits.deBruijn64tab"], apart := false, laid := [("math/bits.deBruijn32tab", laid_math_bits_deBruijn32tab), ("math/bits.deBruijn64tab", laid_math_bits_deBruijn64tab), ("internal/strconv.uint64pow10", laid_internal_strconv_uint64pow10)], narrowed := true }
def FnMakeNumberUptoSaid : Prop := fnMakeNumberUptoRow.holds Tryd.pinned (OpenSpec.upto fnMakeNumberSpec)

/-- 'laws.FnNumberRead', WHERE WHAT IT READS IS OF BULK AT MOST 1048576: true; the input reads as it did. -/
def fnNumberReadUptoRow : OpenClaim := { program := "ytplmmblofhhikaadoor", sum := "1a6ff292b6ef68a5884b2f86e8a365f4e524a0673a174ca4f6b18c7066a8aeb6", func := "pub-escapade/laws.FnNumberRead", spec := "fnNumberRead", named := ["internal/strconv.uint64pow10", "math/bits.deBruijn32tab", "math/bits.deBruijn64tab"], apart := false, laid := [("math/bits.deBruijn32tab", laid_math_bits_deBruijn32tab), ("math/bits.deBruijn64tab", laid_math_bits_deBruijn64tab), ("internal/strconv.uint64pow10", laid_internal_strconv_uint64pow10)], narrowed := true }
def FnNumberReadUptoSaid : Prop := fnNumberReadUptoRow.holds Tryd.pinned (OpenSpec.upto fnNumberReadSpec)

/-- 'laws.FnMakePair', WHERE WHAT IT READS IS OF BULK AT MOST 1048576: true; the input reads as it did. -/
def fnMakePairUptoRow : OpenClaim := { program := "ytplmmblofhhikaadoor", sum := "1a6ff292b6ef68a5884b2f86e8a365f4e524a0673a174ca4f6b18c7066a8aeb6", func := "pub-escapade/laws.FnMakePair", spec := "fnMakePair", recurses := true, named := ["internal/strconv.uint64pow10", "math/bits.deBruijn32tab", "math/bits.deBruijn64tab"], apart := false, laid := [("math/bits.deBruijn32tab", laid_math_bits_deBruijn32tab), ("math/bits.deBruijn64tab", laid_math_bits_deBruijn64tab), ("internal/strconv.uint64pow10", laid_internal_strconv_uint64pow10)], narrowed := true }
def FnMakePairUptoSaid : Prop := fnMakePairUptoRow.holds Tryd.pinned (OpenSpec.upto fnMakePairSpec)

/-- 'laws.FnPairRead', WHERE WHAT IT READS IS OF BULK AT MOST 1048576: true; the input reads as it did. -/
def fnPairReadUptoRow : OpenClaim := { program := "ytplmmblofhhikaadoor", sum := "1a6ff292b6ef68a5884b2f86e8a365f4e524a0673a174ca4f6b18c7066a8aeb6", func := "pub-escapade/laws.FnPairRead", spec := "fnPairRead", named := ["internal/strconv.uint64pow10", "math/bits.deBruijn32tab", "math/bits.deBruijn64tab"], apart := false, laid := [("math/bits.deBruijn32tab", laid_math_bits_deBruijn32tab), ("math/bits.deBruijn64tab", laid_math_bits_deBruijn64tab), ("internal/strconv.uint64pow10", laid_internal_strconv_uint64pow10)], narrowed := true }
def FnPairReadUptoSaid : Prop := fnPairReadUptoRow.holds Tryd.pinned (OpenSpec.upto fnPairReadSpec)

/-- 'laws.FnMakeList', WHERE WHAT IT READS IS OF BULK AT MOST 1048576: true; the input reads as it did. -/
def fnMakeListUptoRow : OpenClaim := { program := "ytplmmblofhhikaadoor", sum := "1a6ff292b6ef68a5884b2f86e8a365f4e524a0673a174ca4f6b18c7066a8aeb6", func := "pub-escapade/laws.FnMakeList", spec := "fnMakeList", recurses := true, named := ["internal/strconv.uint64pow10", "math/bits.deBruijn32tab", "math/bits.deBruijn64tab"], apart := false, laid := [("math/bits.deBruijn32tab", laid_math_bits_deBruijn32tab), ("math/bits.deBruijn64tab", laid_math_bits_deBruijn64tab), ("internal/strconv.uint64pow10", laid_internal_strconv_uint64pow10)], narrowed := true }
def FnMakeListUptoSaid : Prop := fnMakeListUptoRow.holds Tryd.pinned (OpenSpec.upto fnMakeListSpec)

/-- 'laws.FnMakeModes', WHERE WHAT IT READS IS OF BULK AT MOST 1048576: true; the input reads as it did. -/
def fnMakeModesUptoRow : OpenClaim := { program := "ytplmmblofhhikaadoor", sum := "1a6ff292b6ef68a5884b2f86e8a365f4e524a0673a174ca4f6b18c7066a8aeb6", func := "pub-escapade/laws.FnMakeModes", spec := "fnMakeModes", unfollowed := true, recurses := true, named := ["internal/strconv.uint64pow10", "math/bits.deBruijn32tab", "math/bits.deBruijn64tab"], apart := false, laid := [("math/bits.deBruijn32tab", laid_math_bits_deBruijn32tab), ("math/bits.deBruijn64tab", laid_math_bits_deBruijn64tab), ("internal/strconv.uint64pow10", laid_internal_strconv_uint64pow10)], narrowed := true }
def FnMakeModesUptoSaid : Prop := fnMakeModesUptoRow.holds Tryd.pinned (OpenSpec.upto fnMakeModesSpec)

/-- 'laws.FnModesApart', WHERE WHAT IT READS IS OF BULK AT MOST 1048576: true; the input reads as it did. -/
def fnModesApartUptoRow : OpenClaim := { program := "ytplmmblofhhikaadoor", sum := "1a6ff292b6ef68a5884b2f86e8a365f4e524a0673a174ca4f6b18c7066a8aeb6", func := "pub-escapade/laws.FnModesApart", spec := "fnModesApart", unfollowed := true, recurses := true, named := ["internal/strconv.uint64pow10", "math/bits.deBruijn32tab", "math/bits.deBruijn64tab"], apart := false, laid := [("math/bits.deBruijn32tab", laid_math_bits_deBruijn32tab), ("math/bits.deBruijn64tab", laid_math_bits_deBruijn64tab), ("internal/strconv.uint64pow10", laid_internal_strconv_uint64pow10)], narrowed := true }
def FnModesApartUptoSaid : Prop := fnModesApartUptoRow.holds Tryd.pinned (OpenSpec.upto fnModesApartSpec)

/-- 'laws.FnMakeRequest', WHERE WHAT IT READS IS OF BULK AT MOST 1048576: true; the input reads as it did. -/
def fnMakeRequestUptoRow : OpenClaim := { program := "ytplmmblofhhikaadoor", sum := "1a6ff292b6ef68a5884b2f86e8a365f4e524a0673a174ca4f6b18c7066a8aeb6", func := "pub-escapade/laws.FnMakeRequest", spec := "fnMakeRequest", unfollowed := true, recurses := true, named := ["internal/strconv.uint64pow10", "math/bits.deBruijn32tab", "math/bits.deBruijn64tab"], apart := false, laid := [("math/bits.deBruijn32tab", laid_math_bits_deBruijn32tab), ("math/bits.deBruijn64tab", laid_math_bits_deBruijn64tab), ("internal/strconv.uint64pow10", laid_internal_strconv_uint64pow10)], narrowed := true }
def FnMakeRequestUptoSaid : Prop := fnMakeRequestUptoRow.holds Tryd.pinned (OpenSpec.upto fnMakeRequestSpec)

/-- 'laws.FnMakeReport', WHERE WHAT IT READS IS OF BULK AT MOST 1048576: true; the input reads as it did. -/
def fnMakeReportUptoRow : OpenClaim := { program := "ytplmmblofhhikaadoor", sum := "1a6ff292b6ef68a5884b2f86e8a365f4e524a0673a174ca4f6b18c7066a8aeb6", func := "pub-escapade/laws.FnMakeReport", spec := "fnMakeReport", unfollowed := true, recurses := true, named := ["internal/strconv.uint64pow10", "math/bits.deBruijn32tab", "math/bits.deBruijn64tab"], apart := false, laid := [("math/bits.deBruijn32tab", laid_math_bits_deBruijn32tab), ("math/bits.deBruijn64tab", laid_math_bits_deBruijn64tab), ("internal/strconv.uint64pow10", laid_internal_strconv_uint64pow10)], narrowed := true }
def FnMakeReportUptoSaid : Prop := fnMakeReportUptoRow.holds Tryd.pinned (OpenSpec.upto fnMakeReportSpec)

/-- 'laws.FnSixel', WHERE WHAT IT READS IS OF BULK AT MOST 1048576: true; the input reads as it did. -/
def fnSixelUptoRow : OpenClaim := { program := "ytplmmblofhhikaadoor", sum := "1a6ff292b6ef68a5884b2f86e8a365f4e524a0673a174ca4f6b18c7066a8aeb6", func := "pub-escapade/laws.FnSixel", spec := "fnSixel", recurses := true, named := ["internal/strconv.uint64pow10", "math/bits.deBruijn32tab", "math/bits.deBruijn64tab", "bytes.ErrTooLarge"], apart := false, laid := [("math/bits.deBruijn32tab", laid_math_bits_deBruijn32tab), ("math/bits.deBruijn64tab", laid_math_bits_deBruijn64tab), ("internal/strconv.uint64pow10", laid_internal_strconv_uint64pow10), ("bytes.ErrTooLarge", laid_bytes_ErrTooLarge)], narrowed := true }
def FnSixelUptoSaid : Prop := fnSixelUptoRow.holds Tryd.pinned (OpenSpec.upto fnSixelSpec)

/-- 'laws.FnMouseSgr', WHERE WHAT IT READS IS OF BULK AT MOST 1048576: true; the input reads as it did. -/
def fnMouseSgrUptoRow : OpenClaim := { program := "ytplmmblofhhikaadoor", sum := "1a6ff292b6ef68a5884b2f86e8a365f4e524a0673a174ca4f6b18c7066a8aeb6", func := "pub-escapade/laws.FnMouseSgr", spec := "fnMouseSgr", recurses := true, named := ["internal/strconv.uint64pow10", "math/bits.deBruijn32tab", "math/bits.deBruijn64tab"], apart := false, laid := [("math/bits.deBruijn32tab", laid_math_bits_deBruijn32tab), ("math/bits.deBruijn64tab", laid_math_bits_deBruijn64tab), ("internal/strconv.uint64pow10", laid_internal_strconv_uint64pow10)], narrowed := true }
def FnMouseSgrUptoSaid : Prop := fnMouseSgrUptoRow.holds Tryd.pinned (OpenSpec.upto fnMouseSgrSpec)

/-- 'laws.FnCharset', WHERE WHAT IT READS IS OF BULK AT MOST 1048576: true; the input reads as it did. -/
def fnCharsetUptoRow : OpenClaim := { program := "ytplmmblofhhikaadoor", sum := "1a6ff292b6ef68a5884b2f86e8a365f4e524a0673a174ca4f6b18c7066a8aeb6", func := "pub-escapade/laws.FnCharset", spec := "fnCharset", named := ["internal/strconv.uint64pow10", "math/bits.deBruijn32tab", "math/bits.deBruijn64tab"], apart := false, laid := [("math/bits.deBruijn32tab", laid_math_bits_deBruijn32tab), ("math/bits.deBruijn64tab", laid_math_bits_deBruijn64tab), ("internal/strconv.uint64pow10", laid_internal_strconv_uint64pow10)], narrowed := true }
def FnCharsetUptoSaid : Prop := fnCharsetUptoRow.holds Tryd.pinned (OpenSpec.upto fnCharsetSpec)

end Rows
end Go.Proofs.YtplmmblofhhikaaDoor
