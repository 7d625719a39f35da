/-
  No cell of these rows narrows 'for every input' (looked for: loops, veiled, ifaces, maps, wideKeys, modest, calm, conditions, laid).
  DERIVED. THE GIVEN ROWS OF THIS SEAT. 8 by the template 'for every input the law returns true; each argument reads behind the call as it read before'; 0 by the template 'total and deterministic' (their statements: YtinddalpchkllaaTotals.lean).
  GIVEN WITH THE SEED: the statements are not yours to turn. If you find one false, say at which input.
  Laid BY PROGRAM, IN A SANDBOX (cutbox-rows.mjs): the forced cells as the released guide's own fill.sh prints them over the translation 527d8aa46cf40693… (all of the seat's roots in one cut). By AI agents, Wed Nov 11 2026. No macro, syntax, notation, axiom, sorry.
-/
import Derived.Test.YtinddalpchkllaaChecked
import GoSem.Claim
import GoSem.ClaimJoined
import GoSem.ClaimMapViews
import Derived.JoinedTies
import Derived.KernelRfl
namespace Go.Proofs.Ytinddalpchkllaa
/- THE CELL 'sum', in the pinned program and in every row, IS THE sha256 OF THE DUMP (.gsa) THAT YtinddalpchkllaaProg.lean LOADS. Nothing in Lean hashes anything: it is a label: what it is worth is what the hold of that sum in a sandbox is worth. -/
noncomputable def Try.pinned : Pinned := { name := "ytinddalpchkllaa", sum := "527d8aa46cf406938e349507157e21ea01a7537a3f4e3a2f797c55ee2aedab78", checked := Try.checked }
namespace Rows
def none {H : Type} : Left H := { results := [], args := [] }

/-- 'laws.FnUnpackParam': WHATEVER THE INPUT: true; the input reads as it did. -/
def fnUnpackParamSpec : ChangeSpec := { name := "fnUnpackParam", fn := fun _ => fun
  | [d1, d2] => { results := [.lit (.bool true)], args := [d1, d2] }
  | _ => none }
def fnUnpackParamRow : OpenClaim := { program := "ytinddalpchkllaa", sum := "527d8aa46cf406938e349507157e21ea01a7537a3f4e3a2f797c55ee2aedab78", func := "pub-escapade/laws.FnUnpackParam", spec := "fnUnpackParam", apart := false }
def FnUnpackParamSaid : Prop := fnUnpackParamRow.holds Try.pinned (OpenSpec.ofChange fnUnpackParamSpec)

/-- ITS FALSE NEIGHBOUR: 'it returns false'. Refute it at one input. -/
def fnUnpackParamWrong : ChangeSpec := { name := "fnUnpackParam", fn := fun _ => fun
  | [d1, d2] => { results := [.lit (.bool false)], args := [d1, d2] }
  | _ => none }
def FnUnpackParamWrongFalsely : Prop := fnUnpackParamRow.holds Try.pinned (OpenSpec.ofChange fnUnpackParamWrong)

/-- 'laws.FnPackParam': WHATEVER THE INPUT: true; the input reads as it did. -/
def fnPackParamSpec : ChangeSpec := { name := "fnPackParam", fn := fun _ => fun
  | [d1, d2, d3] => { results := [.lit (.bool true)], args := [d1, d2, d3] }
  | _ => none }
def fnPackParamRow : OpenClaim := { program := "ytinddalpchkllaa", sum := "527d8aa46cf406938e349507157e21ea01a7537a3f4e3a2f797c55ee2aedab78", func := "pub-escapade/laws.FnPackParam", spec := "fnPackParam", apart := false }
def FnPackParamSaid : Prop := fnPackParamRow.holds Try.pinned (OpenSpec.ofChange fnPackParamSpec)

/-- ITS FALSE NEIGHBOUR: 'it returns false'. Refute it at one input. -/
def fnPackParamWrong : ChangeSpec := { name := "fnPackParam", fn := fun _ => fun
  | [d1, d2, d3] => { results := [.lit (.bool false)], args := [d1, d2, d3] }
  | _ => none }
def FnPackParamWrongFalsely : Prop := fnPackParamRow.holds Try.pinned (OpenSpec.ofChange fnPackParamWrong)

/-- 'laws.FnPack': WHATEVER THE INPUT: true; the input reads as it did. -/
def fnPackSpec : ChangeSpec := { name := "fnPack", fn := fun _ => fun
  | [d1, d2, d3] => { results := [.lit (.bool true)], args := [d1, d2, d3] }
  | _ => none }
def fnPackRow : OpenClaim := { program := "ytinddalpchkllaa", sum := "527d8aa46cf406938e349507157e21ea01a7537a3f4e3a2f797c55ee2aedab78", func := "pub-escapade/laws.FnPack", spec := "fnPack", apart := false }
def FnPackSaid : Prop := fnPackRow.holds Try.pinned (OpenSpec.ofChange fnPackSpec)

/-- ITS FALSE NEIGHBOUR: 'it returns false'. Refute it at one input. -/
def fnPackWrong : ChangeSpec := { name := "fnPack", fn := fun _ => fun
  | [d1, d2, d3] => { results := [.lit (.bool false)], args := [d1, d2, d3] }
  | _ => none }
def FnPackWrongFalsely : Prop := fnPackRow.holds Try.pinned (OpenSpec.ofChange fnPackWrong)

/-- 'laws.FnUnpack': WHATEVER THE INPUT: true; the input reads as it did. -/
def fnUnpackSpec : ChangeSpec := { name := "fnUnpack", fn := fun _ => fun
  | [d] => { results := [.lit (.bool true)], args := [d] }
  | _ => none }
def fnUnpackRow : OpenClaim := { program := "ytinddalpchkllaa", sum := "527d8aa46cf406938e349507157e21ea01a7537a3f4e3a2f797c55ee2aedab78", func := "pub-escapade/laws.FnUnpack", spec := "fnUnpack", apart := false }
def FnUnpackSaid : Prop := fnUnpackRow.holds Try.pinned (OpenSpec.ofChange fnUnpackSpec)

/-- ITS FALSE NEIGHBOUR: 'it returns false'. Refute it at one input. -/
def fnUnpackWrong : ChangeSpec := { name := "fnUnpack", fn := fun _ => fun
  | [d] => { results := [.lit (.bool false)], args := [d] }
  | _ => none }
def FnUnpackWrongFalsely : Prop := fnUnpackRow.holds Try.pinned (OpenSpec.ofChange fnUnpackWrong)

/-- 'laws.FnParamsEach': WHATEVER THE INPUT: true; the input reads as it did. -/
def fnParamsEachSpec : ChangeSpec := { name := "fnParamsEach", fn := fun _ => fun
  | [d1, d2] => { results := [.lit (.bool true)], args := [d1, d2] }
  | _ => none }
def fnParamsEachRow : OpenClaim := { program := "ytinddalpchkllaa", sum := "527d8aa46cf406938e349507157e21ea01a7537a3f4e3a2f797c55ee2aedab78", func := "pub-escapade/laws.FnParamsEach", spec := "fnParamsEach", unfollowed := true, recurses := true, apart := false }
def FnParamsEachSaid : Prop := fnParamsEachRow.holds Try.pinned (OpenSpec.ofChange fnParamsEachSpec)

/-- ITS FALSE NEIGHBOUR: 'it returns false'. Refute it at one input. -/
def fnParamsEachWrong : ChangeSpec := { name := "fnParamsEach", fn := fun _ => fun
  | [d1, d2] => { results := [.lit (.bool false)], args := [d1, d2] }
  | _ => none }
def FnParamsEachWrongFalsely : Prop := fnParamsEachRow.holds Try.pinned (OpenSpec.ofChange fnParamsEachWrong)

/-- 'laws.FnParamsRange': WHATEVER THE INPUT: true; the input reads as it did. -/
def fnParamsRangeSpec : ChangeSpec := { name := "fnParamsRange", fn := fun _ => fun
  | [d1, d2] => { results := [.lit (.bool true)], args := [d1, d2] }
  | _ => none }
def fnParamsRangeRow : OpenClaim := { program := "ytinddalpchkllaa", sum := "527d8aa46cf406938e349507157e21ea01a7537a3f4e3a2f797c55ee2aedab78", func := "pub-escapade/laws.FnParamsRange", spec := "fnParamsRange", unfollowed := true, recurses := true, apart := false }
def FnParamsRangeSaid : Prop := fnParamsRangeRow.holds Try.pinned (OpenSpec.ofChange fnParamsRangeSpec)

/-- ITS FALSE NEIGHBOUR: 'it returns false'. Refute it at one input. -/
def fnParamsRangeWrong : ChangeSpec := { name := "fnParamsRange", fn := fun _ => fun
  | [d1, d2] => { results := [.lit (.bool false)], args := [d1, d2] }
  | _ => none }
def FnParamsRangeWrongFalsely : Prop := fnParamsRangeRow.holds Try.pinned (OpenSpec.ofChange fnParamsRangeWrong)

/-- 'laws.FnParams': WHATEVER THE INPUT: true; the input reads as it did. -/
def fnParamsSpec : ChangeSpec := { name := "fnParams", fn := fun _ => fun
  | [d1, d2] => { results := [.lit (.bool true)], args := [d1, d2] }
  | _ => none }
def fnParamsRow : OpenClaim := { program := "ytinddalpchkllaa", sum := "527d8aa46cf406938e349507157e21ea01a7537a3f4e3a2f797c55ee2aedab78", func := "pub-escapade/laws.FnParams", spec := "fnParams", apart := false }
def FnParamsSaid : Prop := fnParamsRow.holds Try.pinned (OpenSpec.ofChange fnParamsSpec)

/-- ITS FALSE NEIGHBOUR: 'it returns false'. Refute it at one input. -/
def fnParamsWrong : ChangeSpec := { name := "fnParams", fn := fun _ => fun
  | [d1, d2] => { results := [.lit (.bool false)], args := [d1, d2] }
  | _ => none }
def FnParamsWrongFalsely : Prop := fnParamsRow.holds Try.pinned (OpenSpec.ofChange fnParamsWrong)

/-- 'laws.FnBegins': WHATEVER THE INPUT: true; the input reads as it did. -/
def fnBeginsSpec : ChangeSpec := { name := "fnBegins", fn := fun _ => fun
  | [d1, d2] => { results := [.lit (.bool true)], args := [d1, d2] }
  | _ => none }
def fnBeginsRow : OpenClaim := { program := "ytinddalpchkllaa", sum := "527d8aa46cf406938e349507157e21ea01a7537a3f4e3a2f797c55ee2aedab78", func := "pub-escapade/laws.FnBegins", spec := "fnBegins", apart := false }
def FnBeginsSaid : Prop := fnBeginsRow.holds Try.pinned (OpenSpec.ofChange fnBeginsSpec)

/-- ITS FALSE NEIGHBOUR: 'it returns false'. Refute it at one input. -/
def fnBeginsWrong : ChangeSpec := { name := "fnBegins", fn := fun _ => fun
  | [d1, d2] => { results := [.lit (.bool false)], args := [d1, d2] }
  | _ => none }
def FnBeginsWrongFalsely : Prop := fnBeginsRow.holds Try.pinned (OpenSpec.ofChange fnBeginsWrong)

/- THE SECOND FORM. 'bulk': how many values and letters a reading holds, each counted each time it is reached (what is shared counts as often as it is met; a slice's spare places count too). A statement '..UptoSaid' is the law's where the arguments, and the package variables that the reading takes, are together of bulk at most 1048576: NARROWER than '..Said'. Prove '..Said' where nothing that the law and all that it calls make is longer than what came in: it says more and counts as full. Else prove '..UptoSaid'. A law counts once. -/
mutual
def uptoBulk {H : Type} : DataW H → Nat
  | .lit (.string bytes) => bytes.length + 1
  | .lit _ => 1
  | .nil => 1
  | .ptr d => uptoBulk d + 1
  | .slice elems spare => uptoBulkAll elems + uptoBulkAll spare + 1
  | .agg parts => uptoBulkAll parts + 1
  | .iface _ d => uptoBulk d + 1
  | .map entries => uptoBulkEntries entries + 1
  | .held _ => 1
def uptoBulkAll {H : Type} : List (DataW H) → Nat
  | [] => 0
  | d :: r => uptoBulk d + uptoBulkAll r
def uptoBulkEntries {H : Type} : List (Lit × DataW H) → Nat
  | [] => 0
  | x :: r => uptoBulkEntry x + uptoBulkEntries r
def uptoBulkEntry {H : Type} : Lit × DataW H → Nat
  | (.string bytes, d) => bytes.length + uptoBulk d + 1
  | (_, d) => uptoBulk d + 1
 end
def uptoSmall : (H : Type) → List (DataW H) → Bool := fun _ ds => decide (uptoBulkAll ds ≤ 1048576)
def OpenSpec.upto (s : _root_.Go.ChangeSpec) : _root_.Go.OpenSpec := { _root_.Go.OpenSpec.ofChange s with cond := some uptoSmall }

/-- 'laws.FnUnpackParam', WHERE WHAT IT READS IS OF BULK AT MOST 1048576: true; the input reads as it did. -/
def fnUnpackParamUptoRow : OpenClaim := { program := "ytinddalpchkllaa", sum := "527d8aa46cf406938e349507157e21ea01a7537a3f4e3a2f797c55ee2aedab78", func := "pub-escapade/laws.FnUnpackParam", spec := "fnUnpackParam", apart := false, narrowed := true }
def FnUnpackParamUptoSaid : Prop := fnUnpackParamUptoRow.holds Try.pinned (OpenSpec.upto fnUnpackParamSpec)

/-- 'laws.FnPackParam', WHERE WHAT IT READS IS OF BULK AT MOST 1048576: true; the input reads as it did. -/
def fnPackParamUptoRow : OpenClaim := { program := "ytinddalpchkllaa", sum := "527d8aa46cf406938e349507157e21ea01a7537a3f4e3a2f797c55ee2aedab78", func := "pub-escapade/laws.FnPackParam", spec := "fnPackParam", apart := false, narrowed := true }
def FnPackParamUptoSaid : Prop := fnPackParamUptoRow.holds Try.pinned (OpenSpec.upto fnPackParamSpec)

/-- 'laws.FnPack', WHERE WHAT IT READS IS OF BULK AT MOST 1048576: true; the input reads as it did. -/
def fnPackUptoRow : OpenClaim := { program := "ytinddalpchkllaa", sum := "527d8aa46cf406938e349507157e21ea01a7537a3f4e3a2f797c55ee2aedab78", func := "pub-escapade/laws.FnPack", spec := "fnPack", apart := false, narrowed := true }
def FnPackUptoSaid : Prop := fnPackUptoRow.holds Try.pinned (OpenSpec.upto fnPackSpec)

/-- 'laws.FnUnpack', WHERE WHAT IT READS IS OF BULK AT MOST 1048576: true; the input reads as it did. -/
def fnUnpackUptoRow : OpenClaim := { program := "ytinddalpchkllaa", sum := "527d8aa46cf406938e349507157e21ea01a7537a3f4e3a2f797c55ee2aedab78", func := "pub-escapade/laws.FnUnpack", spec := "fnUnpack", apart := false, narrowed := true }
def FnUnpackUptoSaid : Prop := fnUnpackUptoRow.holds Try.pinned (OpenSpec.upto fnUnpackSpec)

/-- 'laws.FnParamsEach', WHERE WHAT IT READS IS OF BULK AT MOST 1048576: true; the input reads as it did. -/
def fnParamsEachUptoRow : OpenClaim := { program := "ytinddalpchkllaa", sum := "527d8aa46cf406938e349507157e21ea01a7537a3f4e3a2f797c55ee2aedab78", func := "pub-escapade/laws.FnParamsEach", spec := "fnParamsEach", unfollowed := true, recurses := true, apart := false, narrowed := true }
def FnParamsEachUptoSaid : Prop := fnParamsEachUptoRow.holds Try.pinned (OpenSpec.upto fnParamsEachSpec)

/-- 'laws.FnParamsRange', WHERE WHAT IT READS IS OF BULK AT MOST 1048576: true; the input reads as it did. -/
def fnParamsRangeUptoRow : OpenClaim := { program := "ytinddalpchkllaa", sum := "527d8aa46cf406938e349507157e21ea01a7537a3f4e3a2f797c55ee2aedab78", func := "pub-escapade/laws.FnParamsRange", spec := "fnParamsRange", unfollowed := true, recurses := true, apart := false, narrowed := true }
def FnParamsRangeUptoSaid : Prop := fnParamsRangeUptoRow.holds Try.pinned (OpenSpec.upto fnParamsRangeSpec)

/-- 'laws.FnParams', WHERE WHAT IT READS IS OF BULK AT MOST 1048576: true; the input reads as it did. -/
def fnParamsUptoRow : OpenClaim := { program := "ytinddalpchkllaa", sum := "527d8aa46cf406938e349507157e21ea01a7537a3f4e3a2f797c55ee2aedab78", func := "pub-escapade/laws.FnParams", spec := "fnParams", apart := false, narrowed := true }
def FnParamsUptoSaid : Prop := fnParamsUptoRow.holds Try.pinned (OpenSpec.upto fnParamsSpec)

/-- 'laws.FnBegins', WHERE WHAT IT READS IS OF BULK AT MOST 1048576: true; the input reads as it did. -/
def fnBeginsUptoRow : OpenClaim := { program := "ytinddalpchkllaa", sum := "527d8aa46cf406938e349507157e21ea01a7537a3f4e3a2f797c55ee2aedab78", func := "pub-escapade/laws.FnBegins", spec := "fnBegins", apart := false, narrowed := true }
def FnBeginsUptoSaid : Prop := fnBeginsUptoRow.holds Try.pinned (OpenSpec.upto fnBeginsSpec)

end Rows
end Go.Proofs.Ytinddalpchkllaa
