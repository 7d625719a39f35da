-- Written by wip/pp.py, a program of this session, out of the translation. Not trusted: Lean checks it.
import Derived.Test.YtohblegfpghejaaDoorProg
import Derived.Below
import Derived.Deep.Draws
import Derived.Deep.AppendLies
import Derived.Maps.AppendAt
import Derived.OwnWalk
import Derived.Laws.BytesArg
import Derived.Laws.MakeOwn
import Derived.Laws.OwnMore
import Derived.Deep.OwnRows
import Derived.Tactics
import Derived.Lib.ConvBytes
import Derived.Laws.Slices
import Derived.WalkKit
import Derived.KernelRfl
import Derived.RowKit3
import Derived.Deep.LoopGhost
import Derived.Deep.QuietTactic
import Derived.BigQuiet
import Derived.WideLaws
import Derived.Deep.DeepCutAuto
import Derived.Deep.CutBlock
import Derived.Deep.RegionHeld3
import Derived.Laws.Rows
import Derived.Lib.AppendStr
import Derived.ArgAppend
import Derived.Laws.IdiomCopy
import Derived.OrdersHeld
import Derived.Laws.BitsLemmas
import Derived.RowKit
import Derived.Test.YtohblegfpghejaaDoorExt
import Derived.Test.YtohblegfpghejaaDoorExt2
import Derived.Laws.Runes
import Derived.Test.YtohblegfpghejaaDoorOr
import Derived.Test.YtohblegfpghejaaDoorWWords
import Derived.Test.YtohblegfpghejaaDoorWLast
import Derived.Test.YtohblegfpghejaaDoorWTab
import Derived.Test.YtohblegfpghejaaDoorWFour
import Derived.Test.YtohblegfpghejaaDoorWQPut
import Derived.Test.YtohblegfpghejaaDoorWApart
import Derived.Test.YtohblegfpghejaaDoorWArr
import Derived.Test.YtohblegfpghejaaDoorWZeros
import Derived.Test.YtohblegfpghejaaDoorWFoot
import Derived.Test.YtohblegfpghejaaDoorWKept
import Derived.Test.YtohblegfpghejaaDoorWShare
import Derived.Test.YtohblegfpghejaaDoorWN
import Derived.Test.YtohblegfpghejaaDoorWFootNe
import Derived.Test.YtohblegfpghejaaDoorWAt
import Derived.Test.YtohblegfpghejaaDoorWEqStruct
import Derived.Test.YtohblegfpghejaaDoorWRepsOne
import Derived.Test.YtohblegfpghejaaDoorWInv
import Derived.Test.YtohblegfpghejaaDoorWInvWords
import Derived.Test.YtohblegfpghejaaDoorWGuard
import Derived.Test.YtohblegfpghejaaDoorWNEv
import Derived.Test.YtohblegfpghejaaDoorWMore
namespace Go.Proofs.YtohblegfpghejaaDoor.PB
open Go.RowKit Go.Proofs.YtohblegfpghejaaDoor.Or Go.Proofs.YtohblegfpghejaaDoorW.PrintWords Go.Proofs.YtohblegfpghejaaDoorW.PrintLast Go.Proofs.YtohblegfpghejaaDoorW.PrintMore
attribute [local go_sem] max2_int min2_int max_two min_two max_three min_three max_four min_four   -- for this text's walks alone
attribute [local go_sem] Go.Proofs.YtohblegfpghejaaDoor.Ext.wrap64_mod256 Go.Proofs.YtohblegfpghejaaDoor.Ext.wrap64_mod32 Go.Proofs.YtohblegfpghejaaDoor.Ext.i64_mod256 Go.Proofs.YtohblegfpghejaaDoor.Ext.i64_mod32 Go.Proofs.YtohblegfpghejaaDoor.Ext.i64_u8 Go.Proofs.YtohblegfpghejaaDoor.Ext.w64_u8 Go.Proofs.YtohblegfpghejaaDoor.Ext.i64_u32 Go.Proofs.YtohblegfpghejaaDoor.Ext.w64_u32 
set_option linter.unusedVariables false
set_option linter.unusedSimpArgs false



def errW : Option Int → Value
  | none => .nilIface
  | some c => .iface 0 (.int .i64 c)
theorem errW_none : errW none = .nilIface := rfl
theorem errW_some (c : Int) : errW (some c) = .iface 0 (.int .i64 c) := rfl

-- the values' own types

end Go.Proofs.YtohblegfpghejaaDoor.PB
