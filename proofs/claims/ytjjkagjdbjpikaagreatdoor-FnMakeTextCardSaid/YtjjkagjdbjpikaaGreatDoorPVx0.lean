-- Written by wip/pp.py, a program of this session, out of the translation. Not trusted: Lean checks it.
import Derived.Test.YtjjkagjdbjpikaaGreatDoorProg
import Derived.Below
import Derived.Deep.Draws
import Derived.Deep.AppendLies
import Derived.Maps.AppendAt
import Derived.OwnWalk
import Derived.Laws.BytesArg
import Derived.Laws.MakeOwn
import Derived.Laws.OwnMore
import Derived.Deep.OwnRows
import Derived.Tactics
import Derived.Lib.ConvBytes
import Derived.Laws.Slices
import Derived.WalkKit
import Derived.KernelRfl
import Derived.RowKit3
import Derived.Deep.LoopGhost
import Derived.Deep.QuietTactic
import Derived.BigQuiet
import Derived.WideLaws
import Derived.Deep.DeepCutAuto
import Derived.Deep.CutBlock
import Derived.Deep.RegionHeld3
import Derived.Laws.Rows
import Derived.Lib.AppendStr
import Derived.ArgAppend
import Derived.Laws.IdiomCopy
import Derived.OrdersHeld
import Derived.Laws.BitsLemmas
import Derived.RowKit
import Derived.Test.YtjjkagjdbjpikaaGreatDoorExt
import Derived.Test.YtjjkagjdbjpikaaGreatDoorExt2
import Derived.Laws.Runes
import Derived.Test.YtjjkagjdbjpikaaGreatDoorTmuxW
import Derived.Test.YtjjkagjdbjpikaaGreatDoorWWords
import Derived.Test.YtjjkagjdbjpikaaGreatDoorWLast
import Derived.Test.YtjjkagjdbjpikaaGreatDoorWTab
import Derived.Test.YtjjkagjdbjpikaaGreatDoorWFour
import Derived.Test.YtjjkagjdbjpikaaGreatDoorWQPut
import Derived.Test.YtjjkagjdbjpikaaGreatDoorWApart
import Derived.Test.YtjjkagjdbjpikaaGreatDoorWArr
import Derived.Test.YtjjkagjdbjpikaaGreatDoorWZeros
import Derived.Test.YtjjkagjdbjpikaaGreatDoorWFoot
import Derived.Test.YtjjkagjdbjpikaaGreatDoorWKept
import Derived.Test.YtjjkagjdbjpikaaGreatDoorWShare
import Derived.Test.YtjjkagjdbjpikaaGreatDoorWN
import Derived.Test.YtjjkagjdbjpikaaGreatDoorWFootNe
import Derived.Test.YtjjkagjdbjpikaaGreatDoorWAt
import Derived.Test.YtjjkagjdbjpikaaGreatDoorWEqStruct
import Derived.Test.YtjjkagjdbjpikaaGreatDoorWRepsOne
import Derived.Test.YtjjkagjdbjpikaaGreatDoorWInv
import Derived.Test.YtjjkagjdbjpikaaGreatDoorWInvWords
import Derived.Test.YtjjkagjdbjpikaaGreatDoorWGuard
import Derived.Test.YtjjkagjdbjpikaaGreatDoorWNEv
import Derived.Test.YtjjkagjdbjpikaaGreatDoorWMore
namespace Go.Proofs.YtjjkagjdbjpikaaGreatDoor.PV
open Go.RowKit Go.Proofs.YtjjkagjdbjpikaaGreatDoor.Or Go.Proofs.YtjjkagjdbjpikaaGreatDoorW.PrintWords Go.Proofs.YtjjkagjdbjpikaaGreatDoorW.PrintLast Go.Proofs.YtjjkagjdbjpikaaGreatDoorW.PrintMore
attribute [local go_sem] max2_int min2_int max_two min_two max_three min_three max_four min_four   -- for this text's walks alone
attribute [local go_sem] Go.Proofs.YtjjkagjdbjpikaaGreatDoor.Ext.wrap64_mod256 Go.Proofs.YtjjkagjdbjpikaaGreatDoor.Ext.wrap64_mod32 Go.Proofs.YtjjkagjdbjpikaaGreatDoor.Ext.i64_mod256 Go.Proofs.YtjjkagjdbjpikaaGreatDoor.Ext.i64_mod32 Go.Proofs.YtjjkagjdbjpikaaGreatDoor.Ext.i64_u8 Go.Proofs.YtjjkagjdbjpikaaGreatDoor.Ext.w64_u8 Go.Proofs.YtjjkagjdbjpikaaGreatDoor.Ext.i64_u32 Go.Proofs.YtjjkagjdbjpikaaGreatDoor.Ext.w64_u32 
set_option linter.unusedVariables false
set_option linter.unusedSimpArgs false



def errW : Option Int → Value
  | none => .nilIface
  | some c => .iface 0 (.int .i64 c)
theorem errW_none : errW none = .nilIface := rfl
theorem errW_some (c : Int) : errW (some c) = .iface 0 (.int .i64 c) := rfl

theorem info9 : (Tryz.prog.info? 9).map (fun i => (i.zero, i.size, i.bytes)) = some (some (.string ⟨#[]⟩), 1, 16) := by kernel_rfl
-- the values' own types

end Go.Proofs.YtjjkagjdbjpikaaGreatDoor.PV
