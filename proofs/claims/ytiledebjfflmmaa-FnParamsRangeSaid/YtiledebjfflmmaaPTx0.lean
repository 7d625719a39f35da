-- Written by wip/pp.py, a program of this session, out of the translation. Not trusted: Lean checks it.
import Derived.Test.YtiledebjfflmmaaProg
import Derived.Below
import Derived.Deep.Draws
import Derived.Deep.AppendLies
import Derived.Maps.AppendAt
import Derived.OwnWalk
import Derived.Laws.BytesArg
import Derived.Laws.MakeOwn
import Derived.Laws.OwnMore
import Derived.Deep.OwnRows
import Derived.Tactics
import Derived.Lib.ConvBytes
import Derived.Laws.Slices
import Derived.WalkKit
import Derived.KernelRfl
import Derived.RowKit3
import Derived.Deep.LoopGhost
import Derived.Deep.QuietTactic
import Derived.BigQuiet
import Derived.WideLaws
import Derived.Deep.DeepCutAuto
import Derived.Deep.CutBlock
import Derived.Deep.RegionHeld3
import Derived.Laws.Rows
import Derived.Lib.AppendStr
import Derived.ArgAppend
import Derived.Laws.IdiomCopy
import Derived.OrdersHeld
import Derived.Laws.BitsLemmas
import Derived.RowKit
import Derived.Test.YtiledebjfflmmaaExt
import Derived.Test.YtiledebjfflmmaaExt2
import Derived.Laws.Runes
import Derived.Test.YtiledebjfflmmaaWWords
import Derived.Test.YtiledebjfflmmaaWLast
import Derived.Test.YtiledebjfflmmaaWTab
import Derived.Test.YtiledebjfflmmaaWFour
import Derived.Test.YtiledebjfflmmaaWQPut
import Derived.Test.YtiledebjfflmmaaWApart
import Derived.Test.YtiledebjfflmmaaWArr
import Derived.Test.YtiledebjfflmmaaWZeros
import Derived.Test.YtiledebjfflmmaaWFoot
import Derived.Test.YtiledebjfflmmaaWKept
import Derived.Test.YtiledebjfflmmaaWShare
import Derived.Test.YtiledebjfflmmaaWN
import Derived.Test.YtiledebjfflmmaaWFootNe
import Derived.Test.YtiledebjfflmmaaWAt
import Derived.Test.YtiledebjfflmmaaWEqStruct
import Derived.Test.YtiledebjfflmmaaWRepsOne
import Derived.Test.YtiledebjfflmmaaWInv
import Derived.Test.YtiledebjfflmmaaWInvWords
import Derived.Test.YtiledebjfflmmaaWGuard
import Derived.Test.YtiledebjfflmmaaWNEv
import Derived.Test.YtiledebjfflmmaaWMore
namespace Go.Proofs.Ytiledebjfflmmaa.PT
open Go.RowKit Go.Proofs.YtiledebjfflmmaaW.PrintWords Go.Proofs.YtiledebjfflmmaaW.PrintLast Go.Proofs.YtiledebjfflmmaaW.PrintMore
attribute [local go_sem] max2_int min2_int max_two min_two max_three min_three max_four min_four   -- for this text's walks alone
attribute [local go_sem] Go.Proofs.Ytiledebjfflmmaa.Ext.wrap64_mod256 Go.Proofs.Ytiledebjfflmmaa.Ext.wrap64_mod32 Go.Proofs.Ytiledebjfflmmaa.Ext.i64_mod256 Go.Proofs.Ytiledebjfflmmaa.Ext.i64_mod32 Go.Proofs.Ytiledebjfflmmaa.Ext.i64_u8 Go.Proofs.Ytiledebjfflmmaa.Ext.w64_u8 Go.Proofs.Ytiledebjfflmmaa.Ext.i64_u32 Go.Proofs.Ytiledebjfflmmaa.Ext.w64_u32 
set_option linter.unusedVariables false
set_option linter.unusedSimpArgs false



def errW : Option Int → Value
  | none => .nilIface
  | some c => .iface 0 (.int .i64 c)
theorem errW_none : errW none = .nilIface := rfl
theorem errW_some (c : Int) : errW (some c) = .iface 0 (.int .i64 c) := rfl

theorem info42 : (Try.prog.info? 42).map (fun i => (i.zero, i.size, i.bytes)) = some (some (.int .i64 0), 1, 8) := by kernel_rfl
-- the values' own types

end Go.Proofs.Ytiledebjfflmmaa.PT
