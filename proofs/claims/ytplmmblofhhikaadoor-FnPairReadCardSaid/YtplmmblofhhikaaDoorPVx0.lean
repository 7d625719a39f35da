-- Written by wip/pp.py, a program of this session, out of the translation. Not trusted: Lean checks it.
import Derived.Test.YtplmmblofhhikaaDoorProg
import Derived.Below
import Derived.Deep.Draws
import Derived.Deep.AppendLies
import Derived.Maps.AppendAt
import Derived.OwnWalk
import Derived.Laws.BytesArg
import Derived.Laws.MakeOwn
import Derived.Laws.OwnMore
import Derived.Deep.OwnRows
import Derived.Tactics
import Derived.Lib.ConvBytes
import Derived.Laws.Slices
import Derived.WalkKit
import Derived.KernelRfl
import Derived.RowKit3
import Derived.Deep.LoopGhost
import Derived.Deep.QuietTactic
import Derived.BigQuiet
import Derived.WideLaws
import Derived.Deep.DeepCutAuto
import Derived.Deep.CutBlock
import Derived.Deep.RegionHeld3
import Derived.Laws.Rows
import Derived.Lib.AppendStr
import Derived.ArgAppend
import Derived.Laws.IdiomCopy
import Derived.OrdersHeld
import Derived.Laws.BitsLemmas
import Derived.RowKit
import Derived.Test.YtplmmblofhhikaaDoorExt
import Derived.Test.YtplmmblofhhikaaDoorExt2
import Derived.Laws.Runes
import Derived.Test.YtplmmblofhhikaaDoorReadP
import Derived.Test.YtplmmblofhhikaaDoorWWords
import Derived.Test.YtplmmblofhhikaaDoorWLast
import Derived.Test.YtplmmblofhhikaaDoorWTab
import Derived.Test.YtplmmblofhhikaaDoorWFour
import Derived.Test.YtplmmblofhhikaaDoorWQPut
import Derived.Test.YtplmmblofhhikaaDoorWApart
import Derived.Test.YtplmmblofhhikaaDoorWArr
import Derived.Test.YtplmmblofhhikaaDoorWZeros
import Derived.Test.YtplmmblofhhikaaDoorWFoot
import Derived.Test.YtplmmblofhhikaaDoorWKept
import Derived.Test.YtplmmblofhhikaaDoorWShare
import Derived.Test.YtplmmblofhhikaaDoorWN
import Derived.Test.YtplmmblofhhikaaDoorWFootNe
import Derived.Test.YtplmmblofhhikaaDoorWAt
import Derived.Test.YtplmmblofhhikaaDoorWEqStruct
import Derived.Test.YtplmmblofhhikaaDoorWRepsOne
import Derived.Test.YtplmmblofhhikaaDoorWInv
import Derived.Test.YtplmmblofhhikaaDoorWInvWords
import Derived.Test.YtplmmblofhhikaaDoorWGuard
import Derived.Test.YtplmmblofhhikaaDoorWNEv
import Derived.Test.YtplmmblofhhikaaDoorWMore
namespace Go.Proofs.YtplmmblofhhikaaDoor.PV
open Go.RowKit Go.Proofs.YtplmmblofhhikaaDoor.Or Go.Proofs.YtplmmblofhhikaaDoorW.PrintWords Go.Proofs.YtplmmblofhhikaaDoorW.PrintLast Go.Proofs.YtplmmblofhhikaaDoorW.PrintMore
attribute [local go_sem] max2_int min2_int max_two min_two max_three min_three max_four min_four   -- for this text's walks alone
attribute [local go_sem] Go.Proofs.YtplmmblofhhikaaDoor.Ext.wrap64_mod256 Go.Proofs.YtplmmblofhhikaaDoor.Ext.wrap64_mod32 Go.Proofs.YtplmmblofhhikaaDoor.Ext.i64_mod256 Go.Proofs.YtplmmblofhhikaaDoor.Ext.i64_mod32 Go.Proofs.YtplmmblofhhikaaDoor.Ext.i64_u8 Go.Proofs.YtplmmblofhhikaaDoor.Ext.w64_u8 Go.Proofs.YtplmmblofhhikaaDoor.Ext.i64_u32 Go.Proofs.YtplmmblofhhikaaDoor.Ext.w64_u32 
set_option linter.unusedVariables false
set_option linter.unusedSimpArgs false



def errW : Option Int → Value
  | none => .nilIface
  | some c => .iface 0 (.int .i64 c)
theorem errW_none : errW none = .nilIface := rfl
theorem errW_some (c : Int) : errW (some c) = .iface 0 (.int .i64 c) := rfl

theorem info3 : (Tryd.prog.info? 3).map (fun i => (i.zero, i.size, i.bytes)) = some (some (.int .i64 0), 1, 8) := by kernel_rfl
-- the values' own types
end Go.Proofs.YtplmmblofhhikaaDoor.PV
