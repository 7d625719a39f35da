-- Written by wip/pp.py, a program of this session, out of the translation. Not trusted: Lean checks it.
import Derived.Test.YtjicpadeplminaaProg
import Derived.Below
import Derived.Deep.Draws
import Derived.Deep.AppendLies
import Derived.Maps.AppendAt
import Derived.OwnWalk
import Derived.Laws.BytesArg
import Derived.Laws.MakeOwn
import Derived.Laws.OwnMore
import Derived.Deep.OwnRows
import Derived.Tactics
import Derived.Lib.ConvBytes
import Derived.Laws.Slices
import Derived.WalkKit
import Derived.KernelRfl
import Derived.RowKit3
import Derived.Deep.LoopGhost
import Derived.Deep.QuietTactic
import Derived.BigQuiet
import Derived.WideLaws
import Derived.Deep.DeepCutAuto
import Derived.Deep.CutBlock
import Derived.Deep.RegionHeld3
import Derived.Laws.Rows
import Derived.Lib.AppendStr
import Derived.ArgAppend
import Derived.Laws.IdiomCopy
import Derived.OrdersHeld
import Derived.Laws.BitsLemmas
import Derived.RowKit
import Derived.Test.YtjicpadeplminaaExt
import Derived.Test.YtjicpadeplminaaExt2
import Derived.Laws.Runes
import Derived.Test.YtjicpadeplminaaOr
import Derived.Test.YtjicpadeplminaaWWords
import Derived.Test.YtjicpadeplminaaWLast
import Derived.Test.YtjicpadeplminaaWTab
import Derived.Test.YtjicpadeplminaaWFour
import Derived.Test.YtjicpadeplminaaWQPut
import Derived.Test.YtjicpadeplminaaWApart
import Derived.Test.YtjicpadeplminaaWArr
import Derived.Test.YtjicpadeplminaaWZeros
import Derived.Test.YtjicpadeplminaaWFoot
import Derived.Test.YtjicpadeplminaaWKept
import Derived.Test.YtjicpadeplminaaWShare
import Derived.Test.YtjicpadeplminaaWN
import Derived.Test.YtjicpadeplminaaWFootNe
import Derived.Test.YtjicpadeplminaaWAt
import Derived.Test.YtjicpadeplminaaWEqStruct
import Derived.Test.YtjicpadeplminaaWRepsOne
import Derived.Test.YtjicpadeplminaaWInv
import Derived.Test.YtjicpadeplminaaWInvWords
import Derived.Test.YtjicpadeplminaaWGuard
import Derived.Test.YtjicpadeplminaaWNEv
import Derived.Test.YtjicpadeplminaaWMore
namespace Go.Proofs.Ytjicpadeplminaa.PN
open Go.RowKit Go.Proofs.Ytjicpadeplminaa.Or Go.Proofs.YtjicpadeplminaaW.PrintWords Go.Proofs.YtjicpadeplminaaW.PrintLast Go.Proofs.YtjicpadeplminaaW.PrintMore
attribute [local go_sem] max2_int min2_int max_two min_two max_three min_three max_four min_four   -- for this text's walks alone
attribute [local go_sem] Go.Proofs.Ytjicpadeplminaa.Ext.wrap64_mod256 Go.Proofs.Ytjicpadeplminaa.Ext.wrap64_mod32 Go.Proofs.Ytjicpadeplminaa.Ext.i64_mod256 Go.Proofs.Ytjicpadeplminaa.Ext.i64_mod32 Go.Proofs.Ytjicpadeplminaa.Ext.i64_u8 Go.Proofs.Ytjicpadeplminaa.Ext.w64_u8 Go.Proofs.Ytjicpadeplminaa.Ext.i64_u32 Go.Proofs.Ytjicpadeplminaa.Ext.w64_u32 
set_option linter.unusedVariables false
set_option linter.unusedSimpArgs false



def errW : Option Int → Value
  | none => .nilIface
  | some c => .iface 0 (.int .i64 c)
theorem errW_none : errW none = .nilIface := rfl
theorem errW_some (c : Int) : errW (some c) = .iface 0 (.int .i64 c) := rfl

theorem info5 : (Try.prog.info? 5).map (fun i => (i.zero, i.size, i.bytes)) = some (some (.int .u8 0), 1, 1) := by kernel_rfl
-- the values' own types

end Go.Proofs.Ytjicpadeplminaa.PN
