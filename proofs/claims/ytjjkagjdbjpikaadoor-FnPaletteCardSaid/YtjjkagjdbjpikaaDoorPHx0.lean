-- Written by wip/pp.py, a program of this session, out of the translation. Not trusted: Lean checks it.
import Derived.Test.YtjjkagjdbjpikaaDoorProg
import Derived.Below
import Derived.Deep.Draws
import Derived.Deep.AppendLies
import Derived.Maps.AppendAt
import Derived.OwnWalk
import Derived.Laws.BytesArg
import Derived.Laws.MakeOwn
import Derived.Laws.OwnMore
import Derived.Deep.OwnRows
import Derived.Tactics
import Derived.Lib.ConvBytes
import Derived.Laws.Slices
import Derived.WalkKit
import Derived.KernelRfl
import Derived.RowKit3
import Derived.Deep.LoopGhost
import Derived.Deep.QuietTactic
import Derived.BigQuiet
import Derived.WideLaws
import Derived.Deep.DeepCutAuto
import Derived.Deep.CutBlock
import Derived.Deep.RegionHeld3
import Derived.Laws.Rows
import Derived.Lib.AppendStr
import Derived.ArgAppend
import Derived.Laws.IdiomCopy
import Derived.OrdersHeld
import Derived.Laws.BitsLemmas
import Derived.RowKit
import Derived.Test.YtjjkagjdbjpikaaDoorExt
import Derived.Test.YtjjkagjdbjpikaaDoorExt2
import Derived.Laws.Runes
import Derived.Test.YtjjkagjdbjpikaaDoorOr
import Derived.Test.YtjjkagjdbjpikaaDoorWWords
import Derived.Test.YtjjkagjdbjpikaaDoorWLast
import Derived.Test.YtjjkagjdbjpikaaDoorWTab
import Derived.Test.YtjjkagjdbjpikaaDoorWFour
import Derived.Test.YtjjkagjdbjpikaaDoorWQPut
import Derived.Test.YtjjkagjdbjpikaaDoorWApart
import Derived.Test.YtjjkagjdbjpikaaDoorWArr
import Derived.Test.YtjjkagjdbjpikaaDoorWZeros
import Derived.Test.YtjjkagjdbjpikaaDoorWFoot
import Derived.Test.YtjjkagjdbjpikaaDoorWKept
import Derived.Test.YtjjkagjdbjpikaaDoorWShare
import Derived.Test.YtjjkagjdbjpikaaDoorWN
import Derived.Test.YtjjkagjdbjpikaaDoorWFootNe
import Derived.Test.YtjjkagjdbjpikaaDoorWAt
import Derived.Test.YtjjkagjdbjpikaaDoorWEqStruct
import Derived.Test.YtjjkagjdbjpikaaDoorWRepsOne
import Derived.Test.YtjjkagjdbjpikaaDoorWInv
import Derived.Test.YtjjkagjdbjpikaaDoorWInvWords
import Derived.Test.YtjjkagjdbjpikaaDoorWGuard
import Derived.Test.YtjjkagjdbjpikaaDoorWNEv
import Derived.Test.YtjjkagjdbjpikaaDoorWMore
namespace Go.Proofs.YtjjkagjdbjpikaaDoor.PH
open Go.RowKit Go.Proofs.YtjjkagjdbjpikaaDoor.Or Go.Proofs.YtjjkagjdbjpikaaDoorW.PrintWords Go.Proofs.YtjjkagjdbjpikaaDoorW.PrintLast Go.Proofs.YtjjkagjdbjpikaaDoorW.PrintMore
attribute [local go_sem] max2_int min2_int max_two min_two max_three min_three max_four min_four   -- for this text's walks alone
attribute [local go_sem] Go.Proofs.YtjjkagjdbjpikaaDoor.Ext.wrap64_mod256 Go.Proofs.YtjjkagjdbjpikaaDoor.Ext.wrap64_mod32 Go.Proofs.YtjjkagjdbjpikaaDoor.Ext.i64_mod256 Go.Proofs.YtjjkagjdbjpikaaDoor.Ext.i64_mod32 Go.Proofs.YtjjkagjdbjpikaaDoor.Ext.i64_u8 Go.Proofs.YtjjkagjdbjpikaaDoor.Ext.w64_u8 Go.Proofs.YtjjkagjdbjpikaaDoor.Ext.i64_u32 Go.Proofs.YtjjkagjdbjpikaaDoor.Ext.w64_u32 
set_option linter.unusedVariables false
set_option linter.unusedSimpArgs false



def errW : Option Int → Value
  | none => .nilIface
  | some c => .iface 0 (.int .i64 c)
theorem errW_none : errW none = .nilIface := rfl
theorem errW_some (c : Int) : errW (some c) = .iface 0 (.int .i64 c) := rfl

-- the values' own types

end Go.Proofs.YtjjkagjdbjpikaaDoor.PH
