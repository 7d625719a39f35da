-- Written by wip/pp.py, a program of this session, out of the translation. Not trusted: Lean checks it.
import Derived.Test.YtplmmblofhhikaaDoorPVx0
import Derived.ChangeKeysEq
namespace Go.Proofs.YtplmmblofhhikaaDoor.PV
open Go.RowKit Go.Proofs.YtplmmblofhhikaaDoor.Or Go.Proofs.YtplmmblofhhikaaDoorW.PrintWords Go.Proofs.YtplmmblofhhikaaDoorW.PrintLast Go.Proofs.YtplmmblofhhikaaDoorW.PrintMore
attribute [local go_sem] max2_int min2_int max_two min_two max_three min_three max_four min_four   -- for this text's walks alone
attribute [local go_sem] Go.Proofs.YtplmmblofhhikaaDoor.Ext.wrap64_mod256 Go.Proofs.YtplmmblofhhikaaDoor.Ext.wrap64_mod32 Go.Proofs.YtplmmblofhhikaaDoor.Ext.i64_mod256 Go.Proofs.YtplmmblofhhikaaDoor.Ext.i64_mod32 Go.Proofs.YtplmmblofhhikaaDoor.Ext.i64_u8 Go.Proofs.YtplmmblofhhikaaDoor.Ext.w64_u8 Go.Proofs.YtplmmblofhhikaaDoor.Ext.i64_u32 Go.Proofs.YtplmmblofhhikaaDoor.Ext.w64_u32 
set_option linter.unusedVariables false
set_option linter.unusedSimpArgs false

theorem eqA39 (d : Nat) (w : World) (x0 y0 : Int) (x1 y1 : Int) :
    (Op.equalIn (d + 2) 39 (.agg #[.int .i64 x0, .int .i64 x1]) (.agg #[.int .i64 y0, .int .i64 y1])).run Tryd.prog w = .ok (x0 == y0 && (x1 == y1)) w := by
  have eqI : ∀ (x y : Int), (Op.equalIn (d + 1) 2 (.int .i64 x) (.int .i64 y)).run Tryd.prog w = .ok (x == y) w := fun x y => by simp [Op.equalIn, run_underlying Tryd.underlying2]
  have hz : Tryd.prog.cellsOf 2 = 1 := by kernel_rfl
  have hs : (Tryd.prog.info? 2).map (fun i => i.size) = some 1 := by kernel_rfl
  cases hi : Tryd.prog.info? 2 with
  | none => rw [hi] at hs; cases hs
  | some i =>
    rw [hi] at hs
    have hs1 : i.size = 1 := Option.some.inj hs
    rw [show d + 2 = (d + 1) + 1 from rfl, run_equalIn_array w (d + 1) _ _ Tryd.underlying39 hi, hz]
    have p0 : ∀ a b : Int, (part 2 #[.int .i64 a, .int .i64 b] 0).run Tryd.prog w = .ok (.int .i64 a) w := fun a b => by simp [part, sizeOf, typeInfo, hi, hs1]
    have p1 : ∀ a b : Int, (part 2 #[.int .i64 a, .int .i64 b] 1).run Tryd.prog w = .ok (.int .i64 b) w := fun a b => by simp [part, sizeOf, typeInfo, hi, hs1]
    simp [Op.eqItems, List.range_succ, p0, p1, eqI]
    by_cases h0 : x0 = y0 <;> by_cases h1 : x1 = y1 <;> simp [h0, h1]
end Go.Proofs.YtplmmblofhhikaaDoor.PV
