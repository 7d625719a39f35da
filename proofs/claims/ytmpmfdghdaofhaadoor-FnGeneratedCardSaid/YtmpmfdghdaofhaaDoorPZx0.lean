-- Written by wip/pp.py, a program of this session, out of the translation. Not trusted: Lean checks it.
import Derived.Test.YtmpmfdghdaofhaaDoorProg
import Derived.Below
import Derived.Deep.Draws
import Derived.Deep.AppendLies
import Derived.Maps.AppendAt
import Derived.OwnWalk
import Derived.Laws.BytesArg
import Derived.Laws.MakeOwn
import Derived.Laws.OwnMore
import Derived.Deep.OwnRows
import Derived.Tactics
import Derived.Lib.ConvBytes
import Derived.Laws.Slices
import Derived.WalkKit
import Derived.KernelRfl
import Derived.RowKit3
import Derived.Deep.LoopGhost
import Derived.Deep.QuietTactic
import Derived.BigQuiet
import Derived.WideLaws
import Derived.Deep.DeepCutAuto
import Derived.Deep.CutBlock
import Derived.Deep.RegionHeld3
import Derived.Laws.Rows
import Derived.Lib.AppendStr
import Derived.ArgAppend
import Derived.Laws.IdiomCopy
import Derived.OrdersHeld
import Derived.Laws.BitsLemmas
import Derived.RowKit
import Derived.Test.YtmpmfdghdaofhaaDoorExt
import Derived.Test.YtmpmfdghdaofhaaDoorExt2
import Derived.Laws.Runes
import Derived.Test.YtmpmfdghdaofhaaDoorWWords
import Derived.Test.YtmpmfdghdaofhaaDoorWLast
import Derived.Test.YtmpmfdghdaofhaaDoorWTab
import Derived.Test.YtmpmfdghdaofhaaDoorWFour
import Derived.Test.YtmpmfdghdaofhaaDoorWQPut
import Derived.Test.YtmpmfdghdaofhaaDoorWApart
import Derived.Test.YtmpmfdghdaofhaaDoorWArr
import Derived.Test.YtmpmfdghdaofhaaDoorWZeros
import Derived.Test.YtmpmfdghdaofhaaDoorWFoot
import Derived.Test.YtmpmfdghdaofhaaDoorWKept
import Derived.Test.YtmpmfdghdaofhaaDoorWShare
import Derived.Test.YtmpmfdghdaofhaaDoorWN
import Derived.Test.YtmpmfdghdaofhaaDoorWFootNe
import Derived.Test.YtmpmfdghdaofhaaDoorWAt
import Derived.Test.YtmpmfdghdaofhaaDoorWEqStruct
import Derived.Test.YtmpmfdghdaofhaaDoorWRepsOne
import Derived.Test.YtmpmfdghdaofhaaDoorWInv
import Derived.Test.YtmpmfdghdaofhaaDoorWInvWords
import Derived.Test.YtmpmfdghdaofhaaDoorWGuard
import Derived.Test.YtmpmfdghdaofhaaDoorWNEv
import Derived.Test.YtmpmfdghdaofhaaDoorWMore
namespace Go.Proofs.YtmpmfdghdaofhaaDoor.PZ
open Go.RowKit Go.Proofs.YtmpmfdghdaofhaaDoorW.PrintWords Go.Proofs.YtmpmfdghdaofhaaDoorW.PrintLast Go.Proofs.YtmpmfdghdaofhaaDoorW.PrintMore
attribute [local go_sem] max2_int min2_int max_two min_two max_three min_three max_four min_four   -- for this text's walks alone
attribute [local go_sem] Go.Proofs.YtmpmfdghdaofhaaDoor.Ext.wrap64_mod256 Go.Proofs.YtmpmfdghdaofhaaDoor.Ext.wrap64_mod32 Go.Proofs.YtmpmfdghdaofhaaDoor.Ext.i64_mod256 Go.Proofs.YtmpmfdghdaofhaaDoor.Ext.i64_mod32 Go.Proofs.YtmpmfdghdaofhaaDoor.Ext.i64_u8 Go.Proofs.YtmpmfdghdaofhaaDoor.Ext.w64_u8 Go.Proofs.YtmpmfdghdaofhaaDoor.Ext.i64_u32 Go.Proofs.YtmpmfdghdaofhaaDoor.Ext.w64_u32 
set_option linter.unusedVariables false
set_option linter.unusedSimpArgs false



def errW : Option Int → Value
  | none => .nilIface
  | some c => .iface 0 (.int .i64 c)
theorem errW_none : errW none = .nilIface := rfl
theorem errW_some (c : Int) : errW (some c) = .iface 0 (.int .i64 c) := rfl

theorem info5 : (Tryd.prog.info? 5).map (fun i => (i.zero, i.size, i.bytes)) = some (some (.int .u8 0), 1, 1) := by kernel_rfl
-- the values' own types

end Go.Proofs.YtmpmfdghdaofhaaDoor.PZ
