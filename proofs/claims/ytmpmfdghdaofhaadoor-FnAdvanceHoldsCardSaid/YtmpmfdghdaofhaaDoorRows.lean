/-
  NARROWER THAN 'FOR EVERY INPUT', by the rows' own cells (each row's printed sentence says how): FnTransition: laid · FnGenerated: laid · FnAdvance: laid · FnAdvanceHolds: laid.
  DERIVED. THE GIVEN ROWS OF THIS SEAT. 4 by the template 'for every input the law returns true; each argument reads behind the call as it read before'; 0 by the template 'total and deterministic' (their statements: YtmpmfdghdaofhaaDoorTotals.lean).
  GIVEN WITH THE SEED: the statements are not yours to turn. If you find one false, say at which input.
  Laid BY PROGRAM, IN A SANDBOX (cutbox-rows.mjs): the forced cells as the released guide's own fill.sh prints them over the translation 0886f419b40c636b… (all of the seat's roots in one cut). By AI agents, Wed Nov 11 2026. No macro, syntax, notation, axiom, sorry.
-/
import Derived.Test.YtmpmfdghdaofhaaDoorChecked
import GoSem.PinnedTables
import GoSem.Claim
import GoSem.ClaimJoined
import GoSem.ClaimMapViews
import Derived.JoinedTies
import Derived.KernelRfl
namespace Go.Proofs.YtmpmfdghdaofhaaDoor
/- THE CELL 'sum', in the pinned program and in every row, IS THE sha256 OF THE DUMP (.gsa) THAT YtmpmfdghdaofhaaDoorProg.lean LOADS. Nothing in Lean hashes anything: it is a label: what it is worth is what the hold of that sum in a sandbox is worth. -/
noncomputable def Tryd.pinned : Pinned := { name := "ytmpmfdghdaofhaadoor", sum := "0886f419b40c636b76890ad9f874d0d8efdaa0ada28234f920988d981eeebcd5", checked := Tryd.checked }
namespace Rows
def none {H : Type} : Left H := { results := [], args := [] }

/- WHAT THE LISTED PACKAGE-LEVEL VARIABLES READ AS WHEN THE CALL BEGINS. Each datum BY PROGRAM (the guide's laid-datum.mjs) off the statement by which the dump's own 'gosem.cut.vars' lays the variable. In a bare row this is a premise. The card (YtmpmfdghdaofhaaDoorCards.lean) ties it to the program's text. -/
def laid_unicode_utf8_acceptRanges {H : Type} : DataW H := .agg [.agg [.lit (.int .u8 128), .lit (.int .u8 191)], .agg [.lit (.int .u8 160), .lit (.int .u8 191)], .agg [.lit (.int .u8 128), .lit (.int .u8 159)], .agg [.lit (.int .u8 144), .lit (.int .u8 191)], .agg [.lit (.int .u8 128), .lit (.int .u8 143)], .agg [.lit (.int .u8 0), .lit (.int .u8 0)], .agg [.lit (.int .u8 0), .lit (.int .u8 0)], .agg [.lit (.int .u8 0), .lit (.int .u8 0)], .agg [.lit (.int .u8 0), .lit (.int .u8 0)], .agg [.lit (.int .u8 0), .lit (.int .u8 0)], .agg [.lit (.int .u8 0), .lit (.int .u8 0)], .agg [.lit (.int .u8 0), .lit (.int .u8 0)], .agg [.lit (.int .u8 0), .lit (.int .u8 0)], .agg [.lit (.int .u8 0), .lit (.int .u8 0)], .agg [.lit (.int .u8 0), .lit (.int .u8 0)], .agg [.lit (.int .u8 0), .lit (.int .u8 0)]]
/-- One of Go's own tables, pinned by name: the form's constant. -/
def laid_unicode_utf8_first : DataW Unit := Go.Pinned.utf8First

/-- 'laws.FnTransition': WHATEVER THE INPUT: true; the input reads as it did. -/
def fnTransitionSpec : ChangeSpec := { name := "fnTransition", fn := fun _ => fun
  | [d1, d2] => { results := [.lit (.bool true)], args := [d1, d2] }
  | _ => none }
def fnTransitionRow : OpenClaim := { program := "ytmpmfdghdaofhaadoor", sum := "0886f419b40c636b76890ad9f874d0d8efdaa0ada28234f920988d981eeebcd5", func := "pub-escapade/laws.FnTransition", spec := "fnTransition", unfollowed := true, recurses := true, named := ["unicode/utf8.first", "unicode/utf8.acceptRanges"], apart := false, laid := [("unicode/utf8.acceptRanges", laid_unicode_utf8_acceptRanges), ("unicode/utf8.first", laid_unicode_utf8_first)] }
def FnTransitionSaid : Prop := fnTransitionRow.holds Tryd.pinned (OpenSpec.ofChange fnTransitionSpec)

/-- ITS FALSE NEIGHBOUR: 'it returns false'. Refute it at one input. -/
def fnTransitionWrong : ChangeSpec := { name := "fnTransition", fn := fun _ => fun
  | [d1, d2] => { results := [.lit (.bool false)], args := [d1, d2] }
  | _ => none }
def FnTransitionWrongFalsely : Prop := fnTransitionRow.holds Tryd.pinned (OpenSpec.ofChange fnTransitionWrong)

/-- 'laws.FnGenerated': WHATEVER THE INPUT: true; the input reads as it did. -/
def fnGeneratedSpec : ChangeSpec := { name := "fnGenerated", fn := fun _ => fun
  | [d1, d2] => { results := [.lit (.bool true)], args := [d1, d2] }
  | _ => none }
def fnGeneratedRow : OpenClaim := { program := "ytmpmfdghdaofhaadoor", sum := "0886f419b40c636b76890ad9f874d0d8efdaa0ada28234f920988d981eeebcd5", func := "pub-escapade/laws.FnGenerated", spec := "fnGenerated", unfollowed := true, recurses := true, named := ["unicode/utf8.first", "unicode/utf8.acceptRanges"], apart := false, laid := [("unicode/utf8.acceptRanges", laid_unicode_utf8_acceptRanges), ("unicode/utf8.first", laid_unicode_utf8_first)] }
def FnGeneratedSaid : Prop := fnGeneratedRow.holds Tryd.pinned (OpenSpec.ofChange fnGeneratedSpec)

/-- ITS FALSE NEIGHBOUR: 'it returns false'. Refute it at one input. -/
def fnGeneratedWrong : ChangeSpec := { name := "fnGenerated", fn := fun _ => fun
  | [d1, d2] => { results := [.lit (.bool false)], args := [d1, d2] }
  | _ => none }
def FnGeneratedWrongFalsely : Prop := fnGeneratedRow.holds Tryd.pinned (OpenSpec.ofChange fnGeneratedWrong)

/-- 'laws.FnAdvance': WHATEVER THE INPUT: true; the input reads as it did. -/
def fnAdvanceSpec : ChangeSpec := { name := "fnAdvance", fn := fun _ => fun
  | [d1, d2, d3] => { results := [.lit (.bool true)], args := [d1, d2, d3] }
  | _ => none }
def fnAdvanceRow : OpenClaim := { program := "ytmpmfdghdaofhaadoor", sum := "0886f419b40c636b76890ad9f874d0d8efdaa0ada28234f920988d981eeebcd5", func := "pub-escapade/laws.FnAdvance", spec := "fnAdvance", unfollowed := true, recurses := true, named := ["unicode/utf8.first", "unicode/utf8.acceptRanges"], apart := false, laid := [("unicode/utf8.acceptRanges", laid_unicode_utf8_acceptRanges), ("unicode/utf8.first", laid_unicode_utf8_first)] }
def FnAdvanceSaid : Prop := fnAdvanceRow.holds Tryd.pinned (OpenSpec.ofChange fnAdvanceSpec)

/-- ITS FALSE NEIGHBOUR: 'it returns false'. Refute it at one input. -/
def fnAdvanceWrong : ChangeSpec := { name := "fnAdvance", fn := fun _ => fun
  | [d1, d2, d3] => { results := [.lit (.bool false)], args := [d1, d2, d3] }
  | _ => none }
def FnAdvanceWrongFalsely : Prop := fnAdvanceRow.holds Tryd.pinned (OpenSpec.ofChange fnAdvanceWrong)

/-- 'laws.FnAdvanceHolds': WHATEVER THE INPUT: true; the input reads as it did. -/
def fnAdvanceHoldsSpec : ChangeSpec := { name := "fnAdvanceHolds", fn := fun _ => fun
  | [d1, d2, d3] => { results := [.lit (.bool true)], args := [d1, d2, d3] }
  | _ => none }
def fnAdvanceHoldsRow : OpenClaim := { program := "ytmpmfdghdaofhaadoor", sum := "0886f419b40c636b76890ad9f874d0d8efdaa0ada28234f920988d981eeebcd5", func := "pub-escapade/laws.FnAdvanceHolds", spec := "fnAdvanceHolds", unfollowed := true, recurses := true, named := ["unicode/utf8.first", "unicode/utf8.acceptRanges"], apart := false, laid := [("unicode/utf8.acceptRanges", laid_unicode_utf8_acceptRanges), ("unicode/utf8.first", laid_unicode_utf8_first)] }
def FnAdvanceHoldsSaid : Prop := fnAdvanceHoldsRow.holds Tryd.pinned (OpenSpec.ofChange fnAdvanceHoldsSpec)

/-- ITS FALSE NEIGHBOUR: 'it returns false'. Refute it at one input. -/
def fnAdvanceHoldsWrong : ChangeSpec := { name := "fnAdvanceHolds", fn := fun _ => fun
  | [d1, d2, d3] => { results := [.lit (.bool false)], args := [d1, d2, d3] }
  | _ => none }
def FnAdvanceHoldsWrongFalsely : Prop := fnAdvanceHoldsRow.holds Tryd.pinned (OpenSpec.ofChange fnAdvanceHoldsWrong)

/- THE SECOND FORM. 'bulk': how many values and letters a reading holds, each counted each time it is reached (what is shared counts as often as it is met; a slice's spare places count too). A statement '..UptoSaid' is the law's where the arguments, and the package variables that the reading takes, are together of bulk at most 1048576: NARROWER than '..Said'. Prove '..Said' where nothing that the law and all that it calls make is longer than what came in: it says more and counts as full. Else prove '..UptoSaid'. A law counts once. -/
mutual
def uptoBulk {H : Type} : DataW H → Nat
  | .lit (.string bytes) => bytes.length + 1
  | .lit _ => 1
  | .nil => 1
  | .ptr d => uptoBulk d + 1
  | .slice elems spare => uptoBulkAll elems + uptoBulkAll spare + 1
  | .agg parts => uptoBulkAll parts + 1
  | .iface _ d => uptoBulk d + 1
  | .map entries => uptoBulkEntries entries + 1
  | .held _ => 1
def uptoBulkAll {H : Type} : List (DataW H) → Nat
  | [] => 0
  | d :: r => uptoBulk d + uptoBulkAll r
def uptoBulkEntries {H : Type} : List (Lit × DataW H) → Nat
  | [] => 0
  | x :: r => uptoBulkEntry x + uptoBulkEntries r
def uptoBulkEntry {H : Type} : Lit × DataW H → Nat
  | (.string bytes, d) => bytes.length + uptoBulk d + 1
  | (_, d) => uptoBulk d + 1
 end
def uptoSmall : (H : Type) → List (DataW H) → Bool := fun _ ds => decide (uptoBulkAll ds ≤ 1048576)
def OpenSpec.upto (s : _root_.Go.ChangeSpec) : _root_.Go.OpenSpec := { _root_.Go.OpenSpec.ofChange s with cond := some uptoSmall }

/-- 'laws.FnTransition', WHERE WHAT IT READS IS OF BULK AT MOST 1048576: true; the input reads as it did. -/
def fnTransitionUptoRow : OpenClaim := { program := "ytmpmfdghdaofhaadoor", sum := "0886f419b40c636b76890ad9f874d0d8efdaa0ada28234f920988d981eeebcd5", func := "pub-escapade/laws.FnTransition", spec := "fnTransition", unfollowed := true, recurses := true, named := ["unicode/utf8.first", "unicode/utf8.acceptRanges"], apart := false, laid := [("unicode/utf8.acceptRanges", laid_unicode_utf8_acceptRanges), ("unicode/utf8.first", laid_unicode_utf8_first)], narrowed := true }
def FnTransitionUptoSaid : Prop := fnTransitionUptoRow.holds Tryd.pinned (OpenSpec.upto fnTransitionSpec)

/-- 'laws.FnGenerated', WHERE WHAT IT READS IS OF BULK AT MOST 1048576: true; the input reads as it did. -/
def fnGeneratedUptoRow : OpenClaim := { program := "ytmpmfdghdaofhaadoor", sum := "0886f419b40c636b76890ad9f874d0d8efdaa0ada28234f920988d981eeebcd5", func := "pub-escapade/laws.FnGenerated", spec := "fnGenerated", unfollowed := true, recurses := true, named := ["unicode/utf8.first", "unicode/utf8.acceptRanges"], apart := false, laid := [("unicode/utf8.acceptRanges", laid_unicode_utf8_acceptRanges), ("unicode/utf8.first", laid_unicode_utf8_first)], narrowed := true }
def FnGeneratedUptoSaid : Prop := fnGeneratedUptoRow.holds Tryd.pinned (OpenSpec.upto fnGeneratedSpec)

/-- 'laws.FnAdvance', WHERE WHAT IT READS IS OF BULK AT MOST 1048576: true; the input reads as it did. -/
def fnAdvanceUptoRow : OpenClaim := { program := "ytmpmfdghdaofhaadoor", sum := "0886f419b40c636b76890ad9f874d0d8efdaa0ada28234f920988d981eeebcd5", func := "pub-escapade/laws.FnAdvance", spec := "fnAdvance", unfollowed := true, recurses := true, named := ["unicode/utf8.first", "unicode/utf8.acceptRanges"], apart := false, laid := [("unicode/utf8.acceptRanges", laid_unicode_utf8_acceptRanges), ("unicode/utf8.first", laid_unicode_utf8_first)], narrowed := true }
def FnAdvanceUptoSaid : Prop := fnAdvanceUptoRow.holds Tryd.pinned (OpenSpec.upto fnAdvanceSpec)

/-- 'laws.FnAdvanceHolds', WHERE WHAT IT READS IS OF BULK AT MOST 1048576: true; the input reads as it did. -/
def fnAdvanceHoldsUptoRow : OpenClaim := { program := "ytmpmfdghdaofhaadoor", sum := "0886f419b40c636b76890ad9f874d0d8efdaa0ada28234f920988d981eeebcd5", func := "pub-escapade/laws.FnAdvanceHolds", spec := "fnAdvanceHolds", unfollowed := true, recurses := true, named := ["unicode/utf8.first", "unicode/utf8.acceptRanges"], apart := false, laid := [("unicode/utf8.acceptRanges", laid_unicode_utf8_acceptRanges), ("unicode/utf8.first", laid_unicode_utf8_first)], narrowed := true }
def FnAdvanceHoldsUptoSaid : Prop := fnAdvanceHoldsUptoRow.holds Tryd.pinned (OpenSpec.upto fnAdvanceHoldsSpec)

end Rows
end Go.Proofs.YtmpmfdghdaofhaaDoor
