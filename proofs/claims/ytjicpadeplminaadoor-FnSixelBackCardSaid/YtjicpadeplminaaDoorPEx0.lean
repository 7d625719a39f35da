-- Written by wip/pp.py, a program of this session, out of the translation. Not trusted: Lean checks it.
import Derived.Test.YtjicpadeplminaaDoorProg
import Derived.Below
import Derived.Deep.Draws
import Derived.Deep.AppendLies
import Derived.Maps.AppendAt
import Derived.OwnWalk
import Derived.Laws.BytesArg
import Derived.Laws.MakeOwn
import Derived.Laws.OwnMore
import Derived.Deep.OwnRows
import Derived.Tactics
import Derived.Lib.ConvBytes
import Derived.Laws.Slices
import Derived.WalkKit
import Derived.KernelRfl
import Derived.RowKit3
import Derived.Deep.LoopGhost
import Derived.Deep.QuietTactic
import Derived.BigQuiet
import Derived.WideLaws
import Derived.Deep.DeepCutAuto
import Derived.Deep.CutBlock
import Derived.Deep.RegionHeld3
import Derived.Laws.Rows
import Derived.Lib.AppendStr
import Derived.ArgAppend
import Derived.Laws.IdiomCopy
import Derived.OrdersHeld
import Derived.Laws.BitsLemmas
import Derived.RowKit
import Derived.Test.YtjicpadeplminaaDoorExt
import Derived.Test.YtjicpadeplminaaDoorExt2
import Derived.Laws.Runes
import Derived.Test.YtjicpadeplminaaDoorBackOr
import Derived.Test.YtjicpadeplminaaDoorWWords
import Derived.Test.YtjicpadeplminaaDoorWLast
import Derived.Test.YtjicpadeplminaaDoorWTab
import Derived.Test.YtjicpadeplminaaDoorWFour
import Derived.Test.YtjicpadeplminaaDoorWQPut
import Derived.Test.YtjicpadeplminaaDoorWApart
import Derived.Test.YtjicpadeplminaaDoorWArr
import Derived.Test.YtjicpadeplminaaDoorWZeros
import Derived.Test.YtjicpadeplminaaDoorWFoot
import Derived.Test.YtjicpadeplminaaDoorWKept
import Derived.Test.YtjicpadeplminaaDoorWShare
import Derived.Test.YtjicpadeplminaaDoorWN
import Derived.Test.YtjicpadeplminaaDoorWFootNe
import Derived.Test.YtjicpadeplminaaDoorWAt
import Derived.Test.YtjicpadeplminaaDoorWEqStruct
import Derived.Test.YtjicpadeplminaaDoorWRepsOne
import Derived.Test.YtjicpadeplminaaDoorWInv
import Derived.Test.YtjicpadeplminaaDoorWInvWords
import Derived.Test.YtjicpadeplminaaDoorWGuard
import Derived.Test.YtjicpadeplminaaDoorWNEv
import Derived.Test.YtjicpadeplminaaDoorWMore
namespace Go.Proofs.YtjicpadeplminaaDoor.PE
open Go.RowKit Go.Proofs.YtjicpadeplminaaDoor.Or Go.Proofs.YtjicpadeplminaaDoor.Bld Go.Proofs.YtjicpadeplminaaDoorW.PrintWords Go.Proofs.YtjicpadeplminaaDoorW.PrintLast Go.Proofs.YtjicpadeplminaaDoorW.PrintMore
attribute [local go_sem] max2_int min2_int max_two min_two max_three min_three max_four min_four   -- for this text's walks alone
attribute [local go_sem] Go.Proofs.YtjicpadeplminaaDoor.Ext.wrap64_mod256 Go.Proofs.YtjicpadeplminaaDoor.Ext.wrap64_mod32 Go.Proofs.YtjicpadeplminaaDoor.Ext.i64_mod256 Go.Proofs.YtjicpadeplminaaDoor.Ext.i64_mod32 Go.Proofs.YtjicpadeplminaaDoor.Ext.i64_u8 Go.Proofs.YtjicpadeplminaaDoor.Ext.w64_u8 Go.Proofs.YtjicpadeplminaaDoor.Ext.i64_u32 Go.Proofs.YtjicpadeplminaaDoor.Ext.w64_u32 
set_option linter.unusedVariables false
set_option linter.unusedSimpArgs false



def errW : Option Int → Value
  | none => .nilIface
  | some c => .iface 0 (.int .i64 c)
theorem errW_none : errW none = .nilIface := rfl
theorem errW_some (c : Int) : errW (some c) = .iface 0 (.int .i64 c) := rfl

theorem info2 : (Tryd.prog.info? 2).map (fun i => (i.zero, i.size, i.bytes)) = some (some (.int .i64 0), 1, 8) := by kernel_rfl
theorem info5 : (Tryd.prog.info? 5).map (fun i => (i.zero, i.size, i.bytes)) = some (some (.int .u8 0), 1, 1) := by kernel_rfl
-- the values' own types

end Go.Proofs.YtjicpadeplminaaDoor.PE
