-- Written by wip/pp.py, a program of this session, out of the translation. Not trusted: Lean checks it.
import Derived.Test.YtbgneopgpgpgoaaDoorProg
import Derived.Below
import Derived.Deep.Draws
import Derived.Deep.AppendLies
import Derived.Maps.AppendAt
import Derived.OwnWalk
import Derived.Laws.BytesArg
import Derived.Laws.MakeOwn
import Derived.Laws.OwnMore
import Derived.Deep.OwnRows
import Derived.Tactics
import Derived.Lib.ConvBytes
import Derived.Laws.Slices
import Derived.WalkKit
import Derived.KernelRfl
import Derived.RowKit3
import Derived.Deep.LoopGhost
import Derived.Deep.QuietTactic
import Derived.BigQuiet
import Derived.WideLaws
import Derived.Deep.DeepCutAuto
import Derived.Deep.CutBlock
import Derived.Deep.RegionHeld3
import Derived.Laws.Rows
import Derived.Lib.AppendStr
import Derived.ArgAppend
import Derived.Laws.IdiomCopy
import Derived.OrdersHeld
import Derived.Laws.BitsLemmas
import Derived.RowKit
import Derived.Test.YtbgneopgpgpgoaaDoorExt
import Derived.Test.YtbgneopgpgpgoaaDoorExt2
import Derived.Laws.Runes
import Derived.Test.YtbgneopgpgpgoaaDoorWWords
import Derived.Test.YtbgneopgpgpgoaaDoorWLast
import Derived.Test.YtbgneopgpgpgoaaDoorWTab
import Derived.Test.YtbgneopgpgpgoaaDoorWFour
import Derived.Test.YtbgneopgpgpgoaaDoorWQPut
import Derived.Test.YtbgneopgpgpgoaaDoorWApart
import Derived.Test.YtbgneopgpgpgoaaDoorWArr
import Derived.Test.YtbgneopgpgpgoaaDoorWZeros
import Derived.Test.YtbgneopgpgpgoaaDoorWFoot
import Derived.Test.YtbgneopgpgpgoaaDoorWKept
import Derived.Test.YtbgneopgpgpgoaaDoorWShare
import Derived.Test.YtbgneopgpgpgoaaDoorWN
import Derived.Test.YtbgneopgpgpgoaaDoorWFootNe
import Derived.Test.YtbgneopgpgpgoaaDoorWAt
import Derived.Test.YtbgneopgpgpgoaaDoorWEqStruct
import Derived.Test.YtbgneopgpgpgoaaDoorWRepsOne
import Derived.Test.YtbgneopgpgpgoaaDoorWInv
import Derived.Test.YtbgneopgpgpgoaaDoorWInvWords
import Derived.Test.YtbgneopgpgpgoaaDoorWGuard
import Derived.Test.YtbgneopgpgpgoaaDoorWNEv
import Derived.Test.YtbgneopgpgpgoaaDoorWMore
namespace Go.Proofs.YtbgneopgpgpgoaaDoor.PJ
open Go.RowKit Go.Proofs.YtbgneopgpgpgoaaDoorW.PrintWords Go.Proofs.YtbgneopgpgpgoaaDoorW.PrintLast Go.Proofs.YtbgneopgpgpgoaaDoorW.PrintMore
attribute [local go_sem] max2_int min2_int max_two min_two max_three min_three max_four min_four   -- for this text's walks alone
attribute [local go_sem] Go.Proofs.YtbgneopgpgpgoaaDoor.Ext.wrap64_mod256 Go.Proofs.YtbgneopgpgpgoaaDoor.Ext.wrap64_mod32 Go.Proofs.YtbgneopgpgpgoaaDoor.Ext.i64_mod256 Go.Proofs.YtbgneopgpgpgoaaDoor.Ext.i64_mod32 Go.Proofs.YtbgneopgpgpgoaaDoor.Ext.i64_u8 Go.Proofs.YtbgneopgpgpgoaaDoor.Ext.w64_u8 Go.Proofs.YtbgneopgpgpgoaaDoor.Ext.i64_u32 Go.Proofs.YtbgneopgpgpgoaaDoor.Ext.w64_u32 
set_option linter.unusedVariables false
set_option linter.unusedSimpArgs false



def errW : Option Int → Value
  | none => .nilIface
  | some c => .iface 0 (.int .i64 c)
theorem errW_none : errW none = .nilIface := rfl
theorem errW_some (c : Int) : errW (some c) = .iface 0 (.int .i64 c) := rfl

-- the values' own types

end Go.Proofs.YtbgneopgpgpgoaaDoor.PJ
