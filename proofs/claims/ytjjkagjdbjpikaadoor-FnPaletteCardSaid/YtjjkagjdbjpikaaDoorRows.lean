/-
  NARROWER THAN 'FOR EVERY INPUT', by the rows' own cells (each row's printed sentence says how): FnMakeTexts: laid · FnMakeClipboard: laid · FnScreen: laid · FnKitty: laid · FnPalette: laid · FnMakeStatus: laid · FnStatusRead: laid · FnMouseX10: laid · FnLightDark: laid.
  DERIVED. THE GIVEN ROWS OF THIS SEAT. 9 by the template 'for every input the law returns true; each argument reads behind the call as it read before'; 0 by the template 'total and deterministic' (their statements: YtjjkagjdbjpikaaDoorTotals.lean).
  GIVEN WITH THE SEED: the statements are not yours to turn. If you find one false, say at which input.
  Laid BY PROGRAM, IN A SANDBOX (cutbox-rows.mjs): the forced cells as the released guide's own fill.sh prints them over the translation c95fd02f44ba2274… (all of the seat's roots in one cut). By AI agents, Wed Nov 11 2026. No macro, syntax, notation, axiom, sorry.
-/
import Derived.Test.YtjjkagjdbjpikaaDoorChecked
import GoSem.PinnedTables
import GoSem.Claim
import GoSem.ClaimJoined
import GoSem.ClaimMapViews
import Derived.JoinedTies
import Derived.KernelRfl
namespace Go.Proofs.YtjjkagjdbjpikaaDoor
/- THE CELL 'sum', in the pinned program and in every row, IS THE sha256 OF THE DUMP (.gsa) THAT YtjjkagjdbjpikaaDoorProg.lean LOADS. Nothing in Lean hashes anything: it is a label: what it is worth is what the hold of that sum in a sandbox is worth. -/
noncomputable def Tryd.pinned : Pinned := { name := "ytjjkagjdbjpikaadoor", sum := "c95fd02f44ba2274683cea9c1acaa9794c3cf3e592160c4bc6a0e263a270d3c1", checked := Tryd.checked }
namespace Rows
def none {H : Type} : Left H := { results := [], args := [] }

/- WHAT THE LISTED PACKAGE-LEVEL VARIABLES READ AS WHEN THE CALL BEGINS. Each datum BY PROGRAM (the guide's laid-datum.mjs) off the statement by which the dump's own 'gosem.cut.vars' lays the variable. In a bare row this is a premise. The card (YtjjkagjdbjpikaaDoorCards.lean) ties it to the program's text. -/
def laid_math_bits_deBruijn32tab {H : Type} : DataW H := .agg [.lit (.int .u8 0), .lit (.int .u8 1), .lit (.int .u8 28), .lit (.int .u8 2), .lit (.int .u8 29), .lit (.int .u8 14), .lit (.int .u8 24), .lit (.int .u8 3), .lit (.int .u8 30), .lit (.int .u8 22), .lit (.int .u8 20), .lit (.int .u8 15), .lit (.int .u8 25), .lit (.int .u8 17), .lit (.int .u8 4), .lit (.int .u8 8), .lit (.int .u8 31), .lit (.int .u8 27), .lit (.int .u8 13), .lit (.int .u8 23), .lit (.int .u8 21), .lit (.int .u8 19), .lit (.int .u8 16), .lit (.int .u8 7), .lit (.int .u8 26), .lit (.int .u8 12), .lit (.int .u8 18), .lit (.int .u8 6), .lit (.int .u8 11), .lit (.int .u8 5), .lit (.int .u8 10), .lit (.int .u8 9)]
def laid_math_bits_deBruijn64tab {H : Type} : DataW H := .agg [.lit (.int .u8 0), .lit (.int .u8 1), .lit (.int .u8 56), .lit (.int .u8 2), .lit (.int .u8 57), .lit (.int .u8 49), .lit (.int .u8 28), .lit (.int .u8 3), .lit (.int .u8 61), .lit (.int .u8 58), .lit (.int .u8 42), .lit (.int .u8 50), .lit (.int .u8 38), .lit (.int .u8 29), .lit (.int .u8 17), .lit (.int .u8 4), .lit (.int .u8 62), .lit (.int .u8 47), .lit (.int .u8 59), .lit (.int .u8 36), .lit (.int .u8 45), .lit (.int .u8 43), .lit (.int .u8 51), .lit (.int .u8 22), .lit (.int .u8 53), .lit (.int .u8 39), .lit (.int .u8 33), .lit (.int .u8 30), .lit (.int .u8 24), .lit (.int .u8 18), .lit (.int .u8 12), .lit (.int .u8 5), .lit (.int .u8 63), .lit (.int .u8 55), .lit (.int .u8 48), .lit (.int .u8 27), .lit (.int .u8 60), .lit (.int .u8 41), .lit (.int .u8 37), .lit (.int .u8 16), .lit (.int .u8 46), .lit (.int .u8 35), .lit (.int .u8 44), .lit (.int .u8 21), .lit (.int .u8 52), .lit (.int .u8 32), .lit (.int .u8 23), .lit (.int .u8 11), .lit (.int .u8 54), .lit (.int .u8 26), .lit (.int .u8 40), .lit (.int .u8 15), .lit (.int .u8 34), .lit (.int .u8 20), .lit (.int .u8 31), .lit (.int .u8 10), .lit (.int .u8 25), .lit (.int .u8 14), .lit (.int .u8 19), .lit (.int .u8 9), .lit (.int .u8 13), .lit (.int .u8 8), .lit (.int .u8 7), .lit (.int .u8 6)]
def laid_internal_strconv_uint64pow10 {H : Type} : DataW H := .agg [.lit (.int .u64 1), .lit (.int .u64 10), .lit (.int .u64 100), .lit (.int .u64 1000), .lit (.int .u64 10000), .lit (.int .u64 100000), .lit (.int .u64 1000000), .lit (.int .u64 10000000), .lit (.int .u64 100000000), .lit (.int .u64 1000000000), .lit (.int .u64 10000000000), .lit (.int .u64 100000000000), .lit (.int .u64 1000000000000), .lit (.int .u64 10000000000000), .lit (.int .u64 100000000000000), .lit (.int .u64 1000000000000000), .lit (.int .u64 10000000000000000), .lit (.int .u64 100000000000000000), .lit (.int .u64 1000000000000000000), .lit (.int .u64 10000000000000000000)]
def laid_bytes_ErrTooLarge {H : Type} : DataW H := .iface "*errors.errorString" (.ptr (.agg [.lit (.string [98, 121, 116, 101, 115, 46, 66, 117, 102, 102, 101, 114, 58, 32, 116, 111, 111, 32, 108, 97, 114, 103, 101])]))
def laid_unicode_utf8_acceptRanges {H : Type} : DataW H := .agg [.agg [.lit (.int .u8 128), .lit (.int .u8 191)], .agg [.lit (.int .u8 160), .lit (.int .u8 191)], .agg [.lit (.int .u8 128), .lit (.int .u8 159)], .agg [.lit (.int .u8 144), .lit (.int .u8 191)], .agg [.lit (.int .u8 128), .lit (.int .u8 143)], .agg [.lit (.int .u8 0), .lit (.int .u8 0)], .agg [.lit (.int .u8 0), .lit (.int .u8 0)], .agg [.lit (.int .u8 0), .lit (.int .u8 0)], .agg [.lit (.int .u8 0), .lit (.int .u8 0)], .agg [.lit (.int .u8 0), .lit (.int .u8 0)], .agg [.lit (.int .u8 0), .lit (.int .u8 0)], .agg [.lit (.int .u8 0), .lit (.int .u8 0)], .agg [.lit (.int .u8 0), .lit (.int .u8 0)], .agg [.lit (.int .u8 0), .lit (.int .u8 0)], .agg [.lit (.int .u8 0), .lit (.int .u8 0)], .agg [.lit (.int .u8 0), .lit (.int .u8 0)]]
/-- One of Go's own tables, pinned by name: the form's constant. -/
def laid_unicode_utf8_first : DataW Unit := Go.Pinned.utf8First

/-- 'laws.FnMakeTexts': WHATEVER THE INPUT: true; the input reads as it did. -/
def fnMakeTextsSpec : ChangeSpec := { name := "fnMakeTexts", fn := fun _ => fun
  | [d1, d2, d3] => { results := [.lit (.bool true)], args := [d1, d2, d3] }
  | _ => none }
def fnMakeTextsRow : OpenClaim := { program := "ytjjkagjdbjpikaadoor", sum := "c95fd02f44ba2274683cea9c1acaa9794c3cf3e592160c4bc6a0e263a270d3c1", func := "pub-escapade/laws.FnMakeTexts", spec := "fnMakeTexts", named := ["internal/strconv.uint64pow10", "math/bits.deBruijn32tab", "math/bits.deBruijn64tab"], apart := false, laid := [("math/bits.deBruijn32tab", laid_math_bits_deBruijn32tab), ("math/bits.deBruijn64tab", laid_math_bits_deBruijn64tab), ("internal/strconv.uint64pow10", laid_internal_strconv_uint64pow10)] }
def FnMakeTextsSaid : Prop := fnMakeTextsRow.holds Tryd.pinned (OpenSpec.ofChange fnMakeTextsSpec)

/-- ITS FALSE NEIGHBOUR: 'it returns false'. Refute it at one input. -/
def fnMakeTextsWrong : ChangeSpec := { name := "fnMakeTexts", fn := fun _ => fun
  | [d1, d2, d3] => { results := [.lit (.bool false)], args := [d1, d2, d3] }
  | _ => none }
def FnMakeTextsWrongFalsely : Prop := fnMakeTextsRow.holds Tryd.pinned (OpenSpec.ofChange fnMakeTextsWrong)

/-- 'laws.FnMakeClipboard': WHATEVER THE INPUT: true; the input reads as it did. -/
def fnMakeClipboardSpec : ChangeSpec := { name := "fnMakeClipboard", fn := fun _ => fun
  | [d1, d2, d3] => { results := [.lit (.bool true)], args := [d1, d2, d3] }
  | _ => none }
def fnMakeClipboardRow : OpenClaim := { program := "ytjjkagjdbjpikaadoor", sum := "c95fd02f44ba2274683cea9c1acaa9794c3cf3e592160c4bc6a0e263a270d3c1", func := "pub-escapade/laws.FnMakeClipboard", spec := "fnMakeClipboard", named := ["internal/strconv.uint64pow10", "math/bits.deBruijn32tab", "math/bits.deBruijn64tab"], apart := false, laid := [("math/bits.deBruijn32tab", laid_math_bits_deBruijn32tab), ("math/bits.deBruijn64tab", laid_math_bits_deBruijn64tab), ("internal/strconv.uint64pow10", laid_internal_strconv_uint64pow10)] }
def FnMakeClipboardSaid : Prop := fnMakeClipboardRow.holds Tryd.pinned (OpenSpec.ofChange fnMakeClipboardSpec)

/-- ITS FALSE NEIGHBOUR: 'it returns false'. Refute it at one input. -/
def fnMakeClipboardWrong : ChangeSpec := { name := "fnMakeClipboard", fn := fun _ => fun
  | [d1, d2, d3] => { results := [.lit (.bool false)], args := [d1, d2, d3] }
  | _ => none }
def FnMakeClipboardWrongFalsely : Prop := fnMakeClipboardRow.holds Tryd.pinned (OpenSpec.ofChange fnMakeClipboardWrong)

/-- 'laws.FnScreen': WHATEVER THE INPUT: true; the input reads as it did. -/
def fnScreenSpec : ChangeSpec := { name := "fnScreen", fn := fun _ => fun
  | [d1, d2] => { results := [.lit (.bool true)], args := [d1, d2] }
  | _ => none }
def fnScreenRow : OpenClaim := { program := "ytjjkagjdbjpikaadoor", sum := "c95fd02f44ba2274683cea9c1acaa9794c3cf3e592160c4bc6a0e263a270d3c1", func := "pub-escapade/laws.FnScreen", spec := "fnScreen", named := ["internal/strconv.uint64pow10", "math/bits.deBruijn32tab", "math/bits.deBruijn64tab", "bytes.ErrTooLarge"], apart := false, laid := [("math/bits.deBruijn32tab", laid_math_bits_deBruijn32tab), ("math/bits.deBruijn64tab", laid_math_bits_deBruijn64tab), ("internal/strconv.uint64pow10", laid_internal_strconv_uint64pow10), ("bytes.ErrTooLarge", laid_bytes_ErrTooLarge)] }
def FnScreenSaid : Prop := fnScreenRow.holds Tryd.pinned (OpenSpec.ofChange fnScreenSpec)

/-- ITS FALSE NEIGHBOUR: 'it returns false'. Refute it at one input. -/
def fnScreenWrong : ChangeSpec := { name := "fnScreen", fn := fun _ => fun
  | [d1, d2] => { results := [.lit (.bool false)], args := [d1, d2] }
  | _ => none }
def FnScreenWrongFalsely : Prop := fnScreenRow.holds Tryd.pinned (OpenSpec.ofChange fnScreenWrong)

/-- 'laws.FnKitty': WHATEVER THE INPUT: true; the input reads as it did. -/
def fnKittySpec : ChangeSpec := { name := "fnKitty", fn := fun _ => fun
  | [d1, d2] => { results := [.lit (.bool true)], args := [d1, d2] }
  | _ => none }
def fnKittyRow : OpenClaim := { program := "ytjjkagjdbjpikaadoor", sum := "c95fd02f44ba2274683cea9c1acaa9794c3cf3e592160c4bc6a0e263a270d3c1", func := "pub-escapade/laws.FnKitty", spec := "fnKitty", named := ["internal/strconv.uint64pow10", "math/bits.deBruijn32tab", "math/bits.deBruijn64tab", "bytes.ErrTooLarge"], apart := false, laid := [("math/bits.deBruijn32tab", laid_math_bits_deBruijn32tab), ("math/bits.deBruijn64tab", laid_math_bits_deBruijn64tab), ("internal/strconv.uint64pow10", laid_internal_strconv_uint64pow10), ("bytes.ErrTooLarge", laid_bytes_ErrTooLarge)] }
def FnKittySaid : Prop := fnKittyRow.holds Tryd.pinned (OpenSpec.ofChange fnKittySpec)

/-- ITS FALSE NEIGHBOUR: 'it returns false'. Refute it at one input. -/
def fnKittyWrong : ChangeSpec := { name := "fnKitty", fn := fun _ => fun
  | [d1, d2] => { results := [.lit (.bool false)], args := [d1, d2] }
  | _ => none }
def FnKittyWrongFalsely : Prop := fnKittyRow.holds Tryd.pinned (OpenSpec.ofChange fnKittyWrong)

/-- 'laws.FnPalette': WHATEVER THE INPUT: true; the input reads as it did. -/
def fnPaletteSpec : ChangeSpec := { name := "fnPalette", fn := fun _ => fun
  | [d1, d2, d3, d4] => { results := [.lit (.bool true)], args := [d1, d2, d3, d4] }
  | _ => none }
def fnPaletteRow : OpenClaim := { program := "ytjjkagjdbjpikaadoor", sum := "c95fd02f44ba2274683cea9c1acaa9794c3cf3e592160c4bc6a0e263a270d3c1", func := "pub-escapade/laws.FnPalette", spec := "fnPalette", unfollowed := true, recurses := true, named := ["internal/strconv.uint64pow10", "math/bits.deBruijn32tab", "math/bits.deBruijn64tab"], apart := false, laid := [("math/bits.deBruijn32tab", laid_math_bits_deBruijn32tab), ("math/bits.deBruijn64tab", laid_math_bits_deBruijn64tab), ("internal/strconv.uint64pow10", laid_internal_strconv_uint64pow10)] }
def FnPaletteSaid : Prop := fnPaletteRow.holds Tryd.pinned (OpenSpec.ofChange fnPaletteSpec)

/-- ITS FALSE NEIGHBOUR: 'it returns false'. Refute it at one input. -/
def fnPaletteWrong : ChangeSpec := { name := "fnPalette", fn := fun _ => fun
  | [d1, d2, d3, d4] => { results := [.lit (.bool false)], args := [d1, d2, d3, d4] }
  | _ => none }
def FnPaletteWrongFalsely : Prop := fnPaletteRow.holds Tryd.pinned (OpenSpec.ofChange fnPaletteWrong)

/-- 'laws.FnMakeStatus': WHATEVER THE INPUT: true; the input reads as it did. -/
def fnMakeStatusSpec : ChangeSpec := { name := "fnMakeStatus", fn := fun _ => fun
  | [d] => { results := [.lit (.bool true)], args := [d] }
  | _ => none }
def fnMakeStatusRow : OpenClaim := { program := "ytjjkagjdbjpikaadoor", sum := "c95fd02f44ba2274683cea9c1acaa9794c3cf3e592160c4bc6a0e263a270d3c1", func := "pub-escapade/laws.FnMakeStatus", spec := "fnMakeStatus", inPlace := ["internal/abi.NoEscape"], recurses := true, named := ["internal/strconv.uint64pow10", "math/bits.deBruijn32tab", "math/bits.deBruijn64tab", "unicode/utf8.first", "unicode/utf8.acceptRanges"], apart := false, laid := [("math/bits.deBruijn32tab", laid_math_bits_deBruijn32tab), ("math/bits.deBruijn64tab", laid_math_bits_deBruijn64tab), ("internal/strconv.uint64pow10", laid_internal_strconv_uint64pow10), ("unicode/utf8.acceptRanges", laid_unicode_utf8_acceptRanges), ("unicode/utf8.first", laid_unicode_utf8_first)] }
def FnMakeStatusSaid : Prop := fnMakeStatusRow.holds Tryd.pinned (OpenSpec.ofChange fnMakeStatusSpec)

/-- ITS FALSE NEIGHBOUR: 'it returns false'. Refute it at one input. -/
def fnMakeStatusWrong : ChangeSpec := { name := "fnMakeStatus", fn := fun _ => fun
  | [d] => { results := [.lit (.bool false)], args := [d] }
  | _ => none }
def FnMakeStatusWrongFalsely : Prop := fnMakeStatusRow.holds Tryd.pinned (OpenSpec.ofChange fnMakeStatusWrong)

/-- 'laws.FnStatusRead': WHATEVER THE INPUT: true; the input reads as it did. -/
def fnStatusReadSpec : ChangeSpec := { name := "fnStatusRead", fn := fun _ => fun
  | [d] => { results := [.lit (.bool true)], args := [d] }
  | _ => none }
def fnStatusReadRow : OpenClaim := { program := "ytjjkagjdbjpikaadoor", sum := "c95fd02f44ba2274683cea9c1acaa9794c3cf3e592160c4bc6a0e263a270d3c1", func := "pub-escapade/laws.FnStatusRead", spec := "fnStatusRead", inPlace := ["internal/abi.NoEscape"], named := ["internal/strconv.uint64pow10", "math/bits.deBruijn32tab", "math/bits.deBruijn64tab", "unicode/utf8.first", "unicode/utf8.acceptRanges"], apart := false, laid := [("math/bits.deBruijn32tab", laid_math_bits_deBruijn32tab), ("math/bits.deBruijn64tab", laid_math_bits_deBruijn64tab), ("internal/strconv.uint64pow10", laid_internal_strconv_uint64pow10), ("unicode/utf8.acceptRanges", laid_unicode_utf8_acceptRanges), ("unicode/utf8.first", laid_unicode_utf8_first)] }
def FnStatusReadSaid : Prop := fnStatusReadRow.holds Tryd.pinned (OpenSpec.ofChange fnStatusReadSpec)

/-- ITS FALSE NEIGHBOUR: 'it returns false'. Refute it at one input. -/
def fnStatusReadWrong : ChangeSpec := { name := "fnStatusRead", fn := fun _ => fun
  | [d] => { results := [.lit (.bool false)], args := [d] }
  | _ => none }
def FnStatusReadWrongFalsely : Prop := fnStatusReadRow.holds Tryd.pinned (OpenSpec.ofChange fnStatusReadWrong)

/-- 'laws.FnMouseX10': WHATEVER THE INPUT: true; the input reads as it did. -/
def fnMouseX10Spec : ChangeSpec := { name := "fnMouseX10", fn := fun _ => fun
  | [d1, d2, d3] => { results := [.lit (.bool true)], args := [d1, d2, d3] }
  | _ => none }
def fnMouseX10Row : OpenClaim := { program := "ytjjkagjdbjpikaadoor", sum := "c95fd02f44ba2274683cea9c1acaa9794c3cf3e592160c4bc6a0e263a270d3c1", func := "pub-escapade/laws.FnMouseX10", spec := "fnMouseX10", named := ["internal/strconv.uint64pow10", "math/bits.deBruijn32tab", "math/bits.deBruijn64tab"], apart := false, laid := [("math/bits.deBruijn32tab", laid_math_bits_deBruijn32tab), ("math/bits.deBruijn64tab", laid_math_bits_deBruijn64tab), ("internal/strconv.uint64pow10", laid_internal_strconv_uint64pow10)] }
def FnMouseX10Said : Prop := fnMouseX10Row.holds Tryd.pinned (OpenSpec.ofChange fnMouseX10Spec)

/-- ITS FALSE NEIGHBOUR: 'it returns false'. Refute it at one input. -/
def fnMouseX10Wrong : ChangeSpec := { name := "fnMouseX10", fn := fun _ => fun
  | [d1, d2, d3] => { results := [.lit (.bool false)], args := [d1, d2, d3] }
  | _ => none }
def FnMouseX10WrongFalsely : Prop := fnMouseX10Row.holds Tryd.pinned (OpenSpec.ofChange fnMouseX10Wrong)

/-- 'laws.FnLightDark': WHATEVER THE INPUT: true; the input reads as it did. -/
def fnLightDarkSpec : ChangeSpec := { name := "fnLightDark", fn := fun _ => fun
  | [d] => { results := [.lit (.bool true)], args := [d] }
  | _ => none }
def fnLightDarkRow : OpenClaim := { program := "ytjjkagjdbjpikaadoor", sum := "c95fd02f44ba2274683cea9c1acaa9794c3cf3e592160c4bc6a0e263a270d3c1", func := "pub-escapade/laws.FnLightDark", spec := "fnLightDark", named := ["internal/strconv.uint64pow10", "math/bits.deBruijn32tab", "math/bits.deBruijn64tab"], apart := false, laid := [("math/bits.deBruijn32tab", laid_math_bits_deBruijn32tab), ("math/bits.deBruijn64tab", laid_math_bits_deBruijn64tab), ("internal/strconv.uint64pow10", laid_internal_strconv_uint64pow10)] }
def FnLightDarkSaid : Prop := fnLightDarkRow.holds Tryd.pinned (OpenSpec.ofChange fnLightDarkSpec)

/-- ITS FALSE NEIGHBOUR: 'it returns false'. Refute it at one input. -/
def fnLightDarkWrong : ChangeSpec := { name := "fnLightDark", fn := fun _ => fun
  | [d] => { results := [.lit (.bool false)], args := [d] }
  | _ => none }
def FnLightDarkWrongFalsely : Prop := fnLightDarkRow.holds Tryd.pinned (OpenSpec.ofChange fnLightDarkWrong)

/- THE SECOND FORM. 'bulk': how many values and letters a reading holds, each counted each time it is reached (what is shared counts as often as it is met; a slice's spare places count too). A statement '..UptoSaid' is the law's where the arguments, and the package variables that the reading takes, are together of bulk at most 1048576: NARROWER than '..Said'. Prove '..Said' where nothing that the law and all that it calls make is longer than what came in: it says more and counts as full. Else prove '..UptoSaid'. A law counts once. -/
mutual
def uptoBulk {H : Type} : DataW H → Nat
  | .lit (.string bytes) => bytes.length + 1
  | .lit _ => 1
  | .nil => 1
  | .ptr d => uptoBulk d + 1
  | .slice elems spare => uptoBulkAll elems + uptoBulkAll spare + 1
  | .agg parts => uptoBulkAll parts + 1
  | .iface _ d => uptoBulk d + 1
  | .map entries => uptoBulkEntries entries + 1
  | .held _ => 1
def uptoBulkAll {H : Type} : List (DataW H) → Nat
  | [] => 0
  | d :: r => uptoBulk d + uptoBulkAll r
def uptoBulkEntries {H : Type} : List (Lit × DataW H) → Nat
  | [] => 0
  | x :: r => uptoBulkEntry x + uptoBulkEntries r
def uptoBulkEntry {H : Type} : Lit × DataW H → Nat
  | (.string bytes, d) => bytes.length + uptoBulk d + 1
  | (_, d) => uptoBulk d + 1
 end
def uptoSmall : (H : Type) → List (DataW H) → Bool := fun _ ds => decide (uptoBulkAll ds ≤ 1048576)
def OpenSpec.upto (s : _root_.Go.ChangeSpec) : _root_.Go.OpenSpec := { _root_.Go.OpenSpec.ofChange s with cond := some uptoSmall }

/-- 'laws.FnMakeTexts', WHERE WHAT IT READS IS OF BULK AT MOST 1048576: true; the input reads as it did. -/
def fnMakeTextsUptoRow : OpenClaim := { program := "ytjjkagjdbjpikaadoor", sum := "c95fd02f44ba2274683cea9c1acaa9794c3cf3e592160c4bc6a0e263a270d3c1", func := "pub-escapade/laws.FnMakeTexts", spec := "fnMakeTexts", named := ["internal/strconv.uint64pow10", "math/bits.deBruijn32tab", "math/bits.deBruijn64tab"], apart := false, laid := [("math/bits.deBruijn32tab", laid_math_bits_deBruijn32tab), ("math/bits.deBruijn64tab", laid_math_bits_deBruijn64tab), ("internal/strconv.uint64pow10", laid_internal_strconv_uint64pow10)], narrowed := true }
def FnMakeTextsUptoSaid : Prop := fnMakeTextsUptoRow.holds Tryd.pinned (OpenSpec.upto fnMakeTextsSpec)

/-- 'laws.FnMakeClipboard', WHERE WHAT IT READS IS OF BULK AT MOST 1048576: true; the input reads as it did. -/
def fnMakeClipboardUptoRow : OpenClaim := { program := "ytjjkagjdbjpikaadoor", sum := "c95fd02f44ba2274683cea9c1acaa9794c3cf3e592160c4bc6a0e263a270d3c1", func := "pub-escapade/laws.FnMakeClipboard", spec := "fnMakeClipboard", named := ["internal/strconv.uint64pow10", "math/bits.deBruijn32tab", "math/bits.deBruijn64tab"], apart := false, laid := [("math/bits.deBruijn32tab", laid_math_bits_deBruijn32tab), ("math/bits.deBruijn64tab", laid_math_bits_deBruijn64tab), ("internal/strconv.uint64pow10", laid_internal_strconv_uint64pow10)], narrowed := true }
def FnMakeClipboardUptoSaid : Prop := fnMakeClipboardUptoRow.holds Tryd.pinned (OpenSpec.upto fnMakeClipboardSpec)

/-- 'laws.FnScreen', WHERE WHAT IT READS IS OF BULK AT MOST 1048576: true; the input reads as it did. -/
def fnScreenUptoRow : OpenClaim := { program := "ytjjkagjdbjpikaadoor", sum := "c95fd02f44ba2274683cea9c1acaa9794c3cf3e592160c4bc6a0e263a270d3c1", func := "pub-escapade/laws.FnScreen", spec := "fnScreen", named := ["internal/strconv.uint64pow10", "math/bits.deBruijn32tab", "math/bits.deBruijn64tab", "bytes.ErrTooLarge"], apart := false, laid := [("math/bits.deBruijn32tab", laid_math_bits_deBruijn32tab), ("math/bits.deBruijn64tab", laid_math_bits_deBruijn64tab), ("internal/strconv.uint64pow10", laid_internal_strconv_uint64pow10), ("bytes.ErrTooLarge", laid_bytes_ErrTooLarge)], narrowed := true }
def FnScreenUptoSaid : Prop := fnScreenUptoRow.holds Tryd.pinned (OpenSpec.upto fnScreenSpec)

/-- 'laws.FnKitty', WHERE WHAT IT READS IS OF BULK AT MOST 1048576: true; the input reads as it did. -/
def fnKittyUptoRow : OpenClaim := { program := "ytjjkagjdbjpikaadoor", sum := "c95fd02f44ba2274683cea9c1acaa9794c3cf3e592160c4bc6a0e263a270d3c1", func := "pub-escapade/laws.FnKitty", spec := "fnKitty", named := ["internal/strconv.uint64pow10", "math/bits.deBruijn32tab", "math/bits.deBruijn64tab", "bytes.ErrTooLarge"], apart := false, laid := [("math/bits.deBruijn32tab", laid_math_bits_deBruijn32tab), ("math/bits.deBruijn64tab", laid_math_bits_deBruijn64tab), ("internal/strconv.uint64pow10", laid_internal_strconv_uint64pow10), ("bytes.ErrTooLarge", laid_bytes_ErrTooLarge)], narrowed := true }
def FnKittyUptoSaid : Prop := fnKittyUptoRow.holds Tryd.pinned (OpenSpec.upto fnKittySpec)

/-- 'laws.FnPalette', WHERE WHAT IT READS IS OF BULK AT MOST 1048576: true; the input reads as it did. -/
def fnPaletteUptoRow : OpenClaim := { program := "ytjjkagjdbjpikaadoor", sum := "c95fd02f44ba2274683cea9c1acaa9794c3cf3e592160c4bc6a0e263a270d3c1", func := "pub-escapade/laws.FnPalette", spec := "fnPalette", unfollowed := true, recurses := true, named := ["internal/strconv.uint64pow10", "math/bits.deBruijn32tab", "math/bits.deBruijn64tab"], apart := false, laid := [("math/bits.deBruijn32tab", laid_math_bits_deBruijn32tab), ("math/bits.deBruijn64tab", laid_math_bits_deBruijn64tab), ("internal/strconv.uint64pow10", laid_internal_strconv_uint64pow10)], narrowed := true }
def FnPaletteUptoSaid : Prop := fnPaletteUptoRow.holds Tryd.pinned (OpenSpec.upto fnPaletteSpec)

/-- 'laws.FnMakeStatus', WHERE WHAT IT READS IS OF BULK AT MOST 1048576: true; the input reads as it did. -/
def fnMakeStatusUptoRow : OpenClaim := { program := "ytjjkagjdbjpikaadoor", sum := "c95fd02f44ba2274683cea9c1acaa9794c3cf3e592160c4bc6a0e263a270d3c1", func := "pub-escapade/laws.FnMakeStatus", spec := "fnMakeStatus", inPlace := ["internal/abi.NoEscape"], recurses := true, named := ["internal/strconv.uint64pow10", "math/bits.deBruijn32tab", "math/bits.deBruijn64tab", "unicode/utf8.first", "unicode/utf8.acceptRanges"], apart := false, laid := [("math/bits.deBruijn32tab", laid_math_bits_deBruijn32tab), ("math/bits.deBruijn64tab", laid_math_bits_deBruijn64tab), ("internal/strconv.uint64pow10", laid_internal_strconv_uint64pow10), ("unicode/utf8.acceptRanges", laid_unicode_utf8_acceptRanges), ("unicode/utf8.first", laid_unicode_utf8_first)], narrowed := true }
def FnMakeStatusUptoSaid : Prop := fnMakeStatusUptoRow.holds Tryd.pinned (OpenSpec.upto fnMakeStatusSpec)

/-- 'laws.FnStatusRead', WHERE WHAT IT READS IS OF BULK AT MOST 1048576: true; the input reads as it did. -/
def fnStatusReadUptoRow : OpenClaim := { program := "ytjjkagjdbjpikaadoor", sum := "c95fd02f44ba2274683cea9c1acaa9794c3cf3e592160c4bc6a0e263a270d3c1", func := "pub-escapade/laws.FnStatusRead", spec := "fnStatusRead", inPlace := ["internal/abi.NoEscape"], named := ["internal/strconv.uint64pow10", "math/bits.deBruijn32tab", "math/bits.deBruijn64tab", "unicode/utf8.first", "unicode/utf8.acceptRanges"], apart := false, laid := [("math/bits.deBruijn32tab", laid_math_bits_deBruijn32tab), ("math/bits.deBruijn64tab", laid_math_bits_deBruijn64tab), ("internal/strconv.uint64pow10", laid_internal_strconv_uint64pow10), ("unicode/utf8.acceptRanges", laid_unicode_utf8_acceptRanges), ("unicode/utf8.first", laid_unicode_utf8_first)], narrowed := true }
def FnStatusReadUptoSaid : Prop := fnStatusReadUptoRow.holds Tryd.pinned (OpenSpec.upto fnStatusReadSpec)

/-- 'laws.FnMouseX10', WHERE WHAT IT READS IS OF BULK AT MOST 1048576: true; the input reads as it did. -/
def fnMouseX10UptoRow : OpenClaim := { program := "ytjjkagjdbjpikaadoor", sum := "c95fd02f44ba2274683cea9c1acaa9794c3cf3e592160c4bc6a0e263a270d3c1", func := "pub-escapade/laws.FnMouseX10", spec := "fnMouseX10", named := ["internal/strconv.uint64pow10", "math/bits.deBruijn32tab", "math/bits.deBruijn64tab"], apart := false, laid := [("math/bits.deBruijn32tab", laid_math_bits_deBruijn32tab), ("math/bits.deBruijn64tab", laid_math_bits_deBruijn64tab), ("internal/strconv.uint64pow10", laid_internal_strconv_uint64pow10)], narrowed := true }
def FnMouseX10UptoSaid : Prop := fnMouseX10UptoRow.holds Tryd.pinned (OpenSpec.upto fnMouseX10Spec)

/-- 'laws.FnLightDark', WHERE WHAT IT READS IS OF BULK AT MOST 1048576: true; the input reads as it did. -/
def fnLightDarkUptoRow : OpenClaim := { program := "ytjjkagjdbjpikaadoor", sum := "c95fd02f44ba2274683cea9c1acaa9794c3cf3e592160c4bc6a0e263a270d3c1", func := "pub-escapade/laws.FnLightDark", spec := "fnLightDark", named := ["internal/strconv.uint64pow10", "math/bits.deBruijn32tab", "math/bits.deBruijn64tab"], apart := false, laid := [("math/bits.deBruijn32tab", laid_math_bits_deBruijn32tab), ("math/bits.deBruijn64tab", laid_math_bits_deBruijn64tab), ("internal/strconv.uint64pow10", laid_internal_strconv_uint64pow10)], narrowed := true }
def FnLightDarkUptoSaid : Prop := fnLightDarkUptoRow.holds Tryd.pinned (OpenSpec.upto fnLightDarkSpec)

end Rows
end Go.Proofs.YtjjkagjdbjpikaaDoor
