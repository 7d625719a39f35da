-- Written by wip/pp.py, a program of this session, out of the translation. Not trusted: Lean checks it.
import Derived.Test.YtakjcihjkagnfaaDoorProg
import Derived.Below
import Derived.Deep.Draws
import Derived.Deep.AppendLies
import Derived.Maps.AppendAt
import Derived.OwnWalk
import Derived.Laws.BytesArg
import Derived.Laws.MakeOwn
import Derived.Laws.OwnMore
import Derived.Deep.OwnRows
import Derived.Tactics
import Derived.Lib.ConvBytes
import Derived.Laws.Slices
import Derived.WalkKit
import Derived.KernelRfl
import Derived.RowKit3
import Derived.Deep.LoopGhost
import Derived.Deep.QuietTactic
import Derived.BigQuiet
import Derived.WideLaws
import Derived.Deep.DeepCutAuto
import Derived.Deep.CutBlock
import Derived.Deep.RegionHeld3
import Derived.Laws.Rows
import Derived.Lib.AppendStr
import Derived.ArgAppend
import Derived.Laws.IdiomCopy
import Derived.OrdersHeld
import Derived.Laws.BitsLemmas
import Derived.RowKit
import Derived.Test.YtakjcihjkagnfaaDoorExt
import Derived.Test.YtakjcihjkagnfaaDoorExt2
import Derived.Laws.Runes
import Derived.Test.YtakjcihjkagnfaaDoorOr
import Derived.Test.YtakjcihjkagnfaaDoorWWords
import Derived.Test.YtakjcihjkagnfaaDoorWLast
import Derived.Test.YtakjcihjkagnfaaDoorWTab
import Derived.Test.YtakjcihjkagnfaaDoorWFour
import Derived.Test.YtakjcihjkagnfaaDoorWQPut
import Derived.Test.YtakjcihjkagnfaaDoorWApart
import Derived.Test.YtakjcihjkagnfaaDoorWArr
import Derived.Test.YtakjcihjkagnfaaDoorWZeros
import Derived.Test.YtakjcihjkagnfaaDoorWFoot
import Derived.Test.YtakjcihjkagnfaaDoorWKept
import Derived.Test.YtakjcihjkagnfaaDoorWShare
import Derived.Test.YtakjcihjkagnfaaDoorWN
import Derived.Test.YtakjcihjkagnfaaDoorWFootNe
import Derived.Test.YtakjcihjkagnfaaDoorWAt
import Derived.Test.YtakjcihjkagnfaaDoorWEqStruct
import Derived.Test.YtakjcihjkagnfaaDoorWRepsOne
import Derived.Test.YtakjcihjkagnfaaDoorWInv
import Derived.Test.YtakjcihjkagnfaaDoorWInvWords
import Derived.Test.YtakjcihjkagnfaaDoorWGuard
import Derived.Test.YtakjcihjkagnfaaDoorWNEv
import Derived.Test.YtakjcihjkagnfaaDoorWMore
namespace Go.Proofs.YtakjcihjkagnfaaDoor.PM
open Go.RowKit Go.Proofs.YtakjcihjkagnfaaDoor.Or Go.Proofs.YtakjcihjkagnfaaDoorW.PrintWords Go.Proofs.YtakjcihjkagnfaaDoorW.PrintLast Go.Proofs.YtakjcihjkagnfaaDoorW.PrintMore
attribute [local go_sem] max2_int min2_int max_two min_two max_three min_three max_four min_four   -- for this text's walks alone
attribute [local go_sem] Go.Proofs.YtakjcihjkagnfaaDoor.Ext.wrap64_mod256 Go.Proofs.YtakjcihjkagnfaaDoor.Ext.wrap64_mod32 Go.Proofs.YtakjcihjkagnfaaDoor.Ext.i64_mod256 Go.Proofs.YtakjcihjkagnfaaDoor.Ext.i64_mod32 Go.Proofs.YtakjcihjkagnfaaDoor.Ext.i64_u8 Go.Proofs.YtakjcihjkagnfaaDoor.Ext.w64_u8 Go.Proofs.YtakjcihjkagnfaaDoor.Ext.i64_u32 Go.Proofs.YtakjcihjkagnfaaDoor.Ext.w64_u32 
set_option linter.unusedVariables false
set_option linter.unusedSimpArgs false



def errW : Option Int → Value
  | none => .nilIface
  | some c => .iface 0 (.int .i64 c)
theorem errW_none : errW none = .nilIface := rfl
theorem errW_some (c : Int) : errW (some c) = .iface 0 (.int .i64 c) := rfl

theorem info5 : (Tryd.prog.info? 5).map (fun i => (i.zero, i.size, i.bytes)) = some (some (.int .u8 0), 1, 1) := by kernel_rfl
theorem info9 : (Tryd.prog.info? 9).map (fun i => (i.zero, i.size, i.bytes)) = some (some (.string ⟨#[]⟩), 1, 16) := by kernel_rfl
-- the values' own types
/-! #### struct type 51 -/
structure S51 where
  f0 : Bool
  f1 : Int
def z51 : S51 := ⟨false, (0 : Int)⟩
def k51 : Kd S51 := Kd.iso (Kd.pair Kd.bool (Kd.int .i64)) (fun x : S51 => (x.f0, x.f1))
theorem k51_open {w : World} {x : S51} {cs : List Value} (h : k51.K w x cs) : cs = [.bool x.f0, .int .i64 x.f1] := by
  obtain ⟨_, _, rfl, rfl, rfl⟩ := h
  exact rfl
theorem k51_openM {w : World} {base : Nat} {ok : Nat → Prop} {x : S51} {cs : List Value} (h : k51.M w base ok x cs) : cs = [.bool x.f0, .int .i64 x.f1] := by
  obtain ⟨_, _, rfl, rfl, rfl⟩ := h
  exact rfl
theorem k51_mk (w : World) (x : S51)  : k51.K w x [.bool x.f0, .int .i64 x.f1] := ⟨[.bool x.f0], [.int .i64 x.f1], rfl, rfl, rfl⟩
theorem k51_mkM (w : World) (base : Nat) (ok : Nat → Prop) (x : S51)  : k51.M w base ok x [.bool x.f0, .int .i64 x.f1] := ⟨[.bool x.f0], [.int .i64 x.f1], rfl, rfl, rfl⟩
def rd_T51 (xs : List S51) (i : Int) : S51 := xs.getD i.toNat z51
theorem at_T51 {w : World} {A : Option Addr} {n : Nat} {xs : List S51} (h : Kd.C k51 w A n xs) (i : Int) (h0 : 0 ≤ i) (h1 : i < n) : ∃ ad , A = some ad ∧ w.cell? (ad.add (i.toNat * 2)) = some (.bool (rd_T51 xs i).f0) ∧ w.cell? ⟨(ad.add (i.toNat * 2)).block, (ad.add (i.toNat * 2)).off + 1, none⟩ = some (.int .i64 (rd_T51 xs i).f1) := by
  obtain ⟨ad, c, e, _, hK, hc0⟩ := Kd.C_get h z51 i h0 h1
  have hc : ∀ j u, c[j]? = some u → w.cell? (ad.add (i.toNat * 2 + j)) = some u := hc0
  obtain rfl := k51_open hK
  exact ⟨ad, e, hc 0 _ rfl, by rw [← add_field _ _ 1 (by omega)]; exact hc 1 _ rfl⟩

/-! #### struct type 31 -/
structure S31 where
  f0 : Bool
  f1 : Int
def z31 : S31 := ⟨false, (0 : Int)⟩
def k31 : Kd S31 := Kd.iso (Kd.pair Kd.bool (Kd.int .i64)) (fun x : S31 => (x.f0, x.f1))
theorem k31_open {w : World} {x : S31} {cs : List Value} (h : k31.K w x cs) : cs = [.bool x.f0, .int .i64 x.f1] := by
  obtain ⟨_, _, rfl, rfl, rfl⟩ := h
  exact rfl
theorem k31_openM {w : World} {base : Nat} {ok : Nat → Prop} {x : S31} {cs : List Value} (h : k31.M w base ok x cs) : cs = [.bool x.f0, .int .i64 x.f1] := by
  obtain ⟨_, _, rfl, rfl, rfl⟩ := h
  exact rfl
theorem k31_mk (w : World) (x : S31)  : k31.K w x [.bool x.f0, .int .i64 x.f1] := ⟨[.bool x.f0], [.int .i64 x.f1], rfl, rfl, rfl⟩
theorem k31_mkM (w : World) (base : Nat) (ok : Nat → Prop) (x : S31)  : k31.M w base ok x [.bool x.f0, .int .i64 x.f1] := ⟨[.bool x.f0], [.int .i64 x.f1], rfl, rfl, rfl⟩
def rd_T31 (xs : List S31) (i : Int) : S31 := xs.getD i.toNat z31
theorem at_T31 {w : World} {A : Option Addr} {n : Nat} {xs : List S31} (h : Kd.C k31 w A n xs) (i : Int) (h0 : 0 ≤ i) (h1 : i < n) : ∃ ad , A = some ad ∧ w.cell? (ad.add (i.toNat * 2)) = some (.bool (rd_T31 xs i).f0) ∧ w.cell? ⟨(ad.add (i.toNat * 2)).block, (ad.add (i.toNat * 2)).off + 1, none⟩ = some (.int .i64 (rd_T31 xs i).f1) := by
  obtain ⟨ad, c, e, _, hK, hc0⟩ := Kd.C_get h z31 i h0 h1
  have hc : ∀ j u, c[j]? = some u → w.cell? (ad.add (i.toNat * 2 + j)) = some u := hc0
  obtain rfl := k31_open hK
  exact ⟨ad, e, hc 0 _ rfl, by rw [← add_field _ _ 1 (by omega)]; exact hc 1 _ rfl⟩

end Go.Proofs.YtakjcihjkagnfaaDoor.PM
