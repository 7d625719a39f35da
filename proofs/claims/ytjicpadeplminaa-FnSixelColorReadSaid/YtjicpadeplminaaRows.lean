/-
  No cell of these rows narrows 'for every input' (looked for: loops, veiled, ifaces, maps, wideKeys, modest, calm, conditions, laid).
  DERIVED. THE GIVEN ROWS OF THIS SEAT. 4 by the template 'for every input the law returns true; each argument reads behind the call as it read before'; 0 by the template 'total and deterministic' (their statements: YtjicpadeplminaaTotals.lean).
  GIVEN WITH THE SEED: the statements are not yours to turn. If you find one false, say at which input.
  Laid BY PROGRAM, IN A SANDBOX (cutbox-rows.mjs): the forced cells as the released guide's own fill.sh prints them over the translation fb48a68f1dd03e80… (all of the seat's roots in one cut). By AI agents, Wed Nov 11 2026. No macro, syntax, notation, axiom, sorry.
-/
import Derived.Test.YtjicpadeplminaaChecked
import GoSem.Claim
import GoSem.ClaimJoined
import GoSem.ClaimMapViews
import Derived.JoinedTies
import Derived.KernelRfl
namespace Go.Proofs.Ytjicpadeplminaa
/- THE CELL 'sum', in the pinned program and in every row, IS THE sha256 OF THE DUMP (.gsa) THAT YtjicpadeplminaaProg.lean LOADS. Nothing in Lean hashes anything: it is a label: what it is worth is what the hold of that sum in a sandbox is worth. -/
noncomputable def Try.pinned : Pinned := { name := "ytjicpadeplminaa", sum := "fb48a68f1dd03e80df2cf56865eeaf3ee3016aaa7789f492530335f26340c00c", checked := Try.checked }
namespace Rows
def none {H : Type} : Left H := { results := [], args := [] }

/-- 'laws.FnConvertChannel': WHATEVER THE INPUT: true; the input reads as it did. -/
def fnConvertChannelSpec : ChangeSpec := { name := "fnConvertChannel", fn := fun _ => fun
  | [d1, d2] => { results := [.lit (.bool true)], args := [d1, d2] }
  | _ => none }
def fnConvertChannelRow : OpenClaim := { program := "ytjicpadeplminaa", sum := "fb48a68f1dd03e80df2cf56865eeaf3ee3016aaa7789f492530335f26340c00c", func := "pub-escapade/laws.FnConvertChannel", spec := "fnConvertChannel", apart := false }
def FnConvertChannelSaid : Prop := fnConvertChannelRow.holds Try.pinned (OpenSpec.ofChange fnConvertChannelSpec)

/-- ITS FALSE NEIGHBOUR: 'it returns false'. Refute it at one input. -/
def fnConvertChannelWrong : ChangeSpec := { name := "fnConvertChannel", fn := fun _ => fun
  | [d1, d2] => { results := [.lit (.bool false)], args := [d1, d2] }
  | _ => none }
def FnConvertChannelWrongFalsely : Prop := fnConvertChannelRow.holds Try.pinned (OpenSpec.ofChange fnConvertChannelWrong)

/-- 'laws.FnSixelRepeatRead': WHATEVER THE INPUT: true; the input reads as it did. -/
def fnSixelRepeatReadSpec : ChangeSpec := { name := "fnSixelRepeatRead", fn := fun _ => fun
  | [d] => { results := [.lit (.bool true)], args := [d] }
  | _ => none }
def fnSixelRepeatReadRow : OpenClaim := { program := "ytjicpadeplminaa", sum := "fb48a68f1dd03e80df2cf56865eeaf3ee3016aaa7789f492530335f26340c00c", func := "pub-escapade/laws.FnSixelRepeatRead", spec := "fnSixelRepeatRead", apart := false }
def FnSixelRepeatReadSaid : Prop := fnSixelRepeatReadRow.holds Try.pinned (OpenSpec.ofChange fnSixelRepeatReadSpec)

/-- ITS FALSE NEIGHBOUR: 'it returns false'. Refute it at one input. -/
def fnSixelRepeatReadWrong : ChangeSpec := { name := "fnSixelRepeatRead", fn := fun _ => fun
  | [d] => { results := [.lit (.bool false)], args := [d] }
  | _ => none }
def FnSixelRepeatReadWrongFalsely : Prop := fnSixelRepeatReadRow.holds Try.pinned (OpenSpec.ofChange fnSixelRepeatReadWrong)

/-- 'laws.FnSixelRasterRead': WHATEVER THE INPUT: true; the input reads as it did. -/
def fnSixelRasterReadSpec : ChangeSpec := { name := "fnSixelRasterRead", fn := fun _ => fun
  | [d] => { results := [.lit (.bool true)], args := [d] }
  | _ => none }
def fnSixelRasterReadRow : OpenClaim := { program := "ytjicpadeplminaa", sum := "fb48a68f1dd03e80df2cf56865eeaf3ee3016aaa7789f492530335f26340c00c", func := "pub-escapade/laws.FnSixelRasterRead", spec := "fnSixelRasterRead", apart := false }
def FnSixelRasterReadSaid : Prop := fnSixelRasterReadRow.holds Try.pinned (OpenSpec.ofChange fnSixelRasterReadSpec)

/-- ITS FALSE NEIGHBOUR: 'it returns false'. Refute it at one input. -/
def fnSixelRasterReadWrong : ChangeSpec := { name := "fnSixelRasterRead", fn := fun _ => fun
  | [d] => { results := [.lit (.bool false)], args := [d] }
  | _ => none }
def FnSixelRasterReadWrongFalsely : Prop := fnSixelRasterReadRow.holds Try.pinned (OpenSpec.ofChange fnSixelRasterReadWrong)

/-- 'laws.FnSixelColorRead': WHATEVER THE INPUT: true; the input reads as it did. -/
def fnSixelColorReadSpec : ChangeSpec := { name := "fnSixelColorRead", fn := fun _ => fun
  | [d] => { results := [.lit (.bool true)], args := [d] }
  | _ => none }
def fnSixelColorReadRow : OpenClaim := { program := "ytjicpadeplminaa", sum := "fb48a68f1dd03e80df2cf56865eeaf3ee3016aaa7789f492530335f26340c00c", func := "pub-escapade/laws.FnSixelColorRead", spec := "fnSixelColorRead", apart := false }
def FnSixelColorReadSaid : Prop := fnSixelColorReadRow.holds Try.pinned (OpenSpec.ofChange fnSixelColorReadSpec)

/-- ITS FALSE NEIGHBOUR: 'it returns false'. Refute it at one input. -/
def fnSixelColorReadWrong : ChangeSpec := { name := "fnSixelColorRead", fn := fun _ => fun
  | [d] => { results := [.lit (.bool false)], args := [d] }
  | _ => none }
def FnSixelColorReadWrongFalsely : Prop := fnSixelColorReadRow.holds Try.pinned (OpenSpec.ofChange fnSixelColorReadWrong)

/- THE SECOND FORM. 'bulk': how many values and letters a reading holds, each counted each time it is reached (what is shared counts as often as it is met; a slice's spare places count too). A statement '..UptoSaid' is the law's where the arguments, and the package variables that the reading takes, are together of bulk at most 1048576: NARROWER than '..Said'. Prove '..Said' where nothing that the law and all that it calls make is longer than what came in: it says more and counts as full. Else prove '..UptoSaid'. A law counts once. -/
mutual
def uptoBulk {H : Type} : DataW H → Nat
  | .lit (.string bytes) => bytes.length + 1
  | .lit _ => 1
  | .nil => 1
  | .ptr d => uptoBulk d + 1
  | .slice elems spare => uptoBulkAll elems + uptoBulkAll spare + 1
  | .agg parts => uptoBulkAll parts + 1
  | .iface _ d => uptoBulk d + 1
  | .map entries => uptoBulkEntries entries + 1
  | .held _ => 1
def uptoBulkAll {H : Type} : List (DataW H) → Nat
  | [] => 0
  | d :: r => uptoBulk d + uptoBulkAll r
def uptoBulkEntries {H : Type} : List (Lit × DataW H) → Nat
  | [] => 0
  | x :: r => uptoBulkEntry x + uptoBulkEntries r
def uptoBulkEntry {H : Type} : Lit × DataW H → Nat
  | (.string bytes, d) => bytes.length + uptoBulk d + 1
  | (_, d) => uptoBulk d + 1
 end
def uptoSmall : (H : Type) → List (DataW H) → Bool := fun _ ds => decide (uptoBulkAll ds ≤ 1048576)
def OpenSpec.upto (s : _root_.Go.ChangeSpec) : _root_.Go.OpenSpec := { _root_.Go.OpenSpec.ofChange s with cond := some uptoSmall }

/-- 'laws.FnConvertChannel', WHERE WHAT IT READS IS OF BULK AT MOST 1048576: true; the input reads as it did. -/
def fnConvertChannelUptoRow : OpenClaim := { program := "ytjicpadeplminaa", sum := "fb48a68f1dd03e80df2cf56865eeaf3ee3016aaa7789f492530335f26340c00c", func := "pub-escapade/laws.FnConvertChannel", spec := "fnConvertChannel", apart := false, narrowed := true }
def FnConvertChannelUptoSaid : Prop := fnConvertChannelUptoRow.holds Try.pinned (OpenSpec.upto fnConvertChannelSpec)

/-- 'laws.FnSixelRepeatRead', WHERE WHAT IT READS IS OF BULK AT MOST 1048576: true; the input reads as it did. -/
def fnSixelRepeatReadUptoRow : OpenClaim := { program := "ytjicpadeplminaa", sum := "fb48a68f1dd03e80df2cf56865eeaf3ee3016aaa7789f492530335f26340c00c", func := "pub-escapade/laws.FnSixelRepeatRead", spec := "fnSixelRepeatRead", apart := false, narrowed := true }
def FnSixelRepeatReadUptoSaid : Prop := fnSixelRepeatReadUptoRow.holds Try.pinned (OpenSpec.upto fnSixelRepeatReadSpec)

/-- 'laws.FnSixelRasterRead', WHERE WHAT IT READS IS OF BULK AT MOST 1048576: true; the input reads as it did. -/
def fnSixelRasterReadUptoRow : OpenClaim := { program := "ytjicpadeplminaa", sum := "fb48a68f1dd03e80df2cf56865eeaf3ee3016aaa7789f492530335f26340c00c", func := "pub-escapade/laws.FnSixelRasterRead", spec := "fnSixelRasterRead", apart := false, narrowed := true }
def FnSixelRasterReadUptoSaid : Prop := fnSixelRasterReadUptoRow.holds Try.pinned (OpenSpec.upto fnSixelRasterReadSpec)

/-- 'laws.FnSixelColorRead', WHERE WHAT IT READS IS OF BULK AT MOST 1048576: true; the input reads as it did. -/
def fnSixelColorReadUptoRow : OpenClaim := { program := "ytjicpadeplminaa", sum := "fb48a68f1dd03e80df2cf56865eeaf3ee3016aaa7789f492530335f26340c00c", func := "pub-escapade/laws.FnSixelColorRead", spec := "fnSixelColorRead", apart := false, narrowed := true }
def FnSixelColorReadUptoSaid : Prop := fnSixelColorReadUptoRow.holds Try.pinned (OpenSpec.upto fnSixelColorReadSpec)

end Rows
end Go.Proofs.Ytjicpadeplminaa
