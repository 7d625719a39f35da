-- Written by wip/pp.py, a program of this session, out of the translation. Not trusted: Lean checks it.
import Derived.Test.YtplmmblofhhikaaDoorProg
import Derived.Below
import Derived.Deep.Draws
import Derived.Deep.AppendLies
import Derived.Maps.AppendAt
import Derived.OwnWalk
import Derived.Laws.BytesArg
import Derived.Laws.MakeOwn
import Derived.Laws.OwnMore
import Derived.Deep.OwnRows
import Derived.Tactics
import Derived.Lib.ConvBytes
import Derived.Laws.Slices
import Derived.WalkKit
import Derived.KernelRfl
import Derived.RowKit3
import Derived.Deep.LoopGhost
import Derived.Deep.QuietTactic
import Derived.BigQuiet
import Derived.WideLaws
import Derived.Deep.DeepCutAuto
import Derived.Deep.CutBlock
import Derived.Deep.RegionHeld3
import Derived.Laws.Rows
import Derived.Lib.AppendStr
import Derived.ArgAppend
import Derived.Laws.IdiomCopy
import Derived.OrdersHeld
import Derived.Laws.BitsLemmas
import Derived.RowKit
import Derived.Test.YtplmmblofhhikaaDoorExt
import Derived.Test.YtplmmblofhhikaaDoorExt2
import Derived.Laws.Runes
import Derived.Test.YtplmmblofhhikaaDoorOr
import Derived.Test.YtplmmblofhhikaaDoorWWords
import Derived.Test.YtplmmblofhhikaaDoorWLast
import Derived.Test.YtplmmblofhhikaaDoorWTab
import Derived.Test.YtplmmblofhhikaaDoorWFour
import Derived.Test.YtplmmblofhhikaaDoorWQPut
import Derived.Test.YtplmmblofhhikaaDoorWApart
import Derived.Test.YtplmmblofhhikaaDoorWArr
import Derived.Test.YtplmmblofhhikaaDoorWZeros
import Derived.Test.YtplmmblofhhikaaDoorWFoot
import Derived.Test.YtplmmblofhhikaaDoorWKept
import Derived.Test.YtplmmblofhhikaaDoorWShare
import Derived.Test.YtplmmblofhhikaaDoorWN
import Derived.Test.YtplmmblofhhikaaDoorWFootNe
import Derived.Test.YtplmmblofhhikaaDoorWAt
import Derived.Test.YtplmmblofhhikaaDoorWEqStruct
import Derived.Test.YtplmmblofhhikaaDoorWRepsOne
import Derived.Test.YtplmmblofhhikaaDoorWInv
import Derived.Test.YtplmmblofhhikaaDoorWInvWords
import Derived.Test.YtplmmblofhhikaaDoorWGuard
import Derived.Test.YtplmmblofhhikaaDoorWNEv
import Derived.Test.YtplmmblofhhikaaDoorWMore
namespace Go.Proofs.YtplmmblofhhikaaDoor.PM
open Go.RowKit Go.Proofs.YtplmmblofhhikaaDoor.Or Go.Proofs.YtplmmblofhhikaaDoorW.PrintWords Go.Proofs.YtplmmblofhhikaaDoorW.PrintLast Go.Proofs.YtplmmblofhhikaaDoorW.PrintMore
attribute [local go_sem] max2_int min2_int max_two min_two max_three min_three max_four min_four   -- for this text's walks alone
attribute [local go_sem] Ext.wrap64_mod256 Ext.wrap64_mod32 Ext.i64_mod256 Ext.i64_mod32 Ext.i64_u8 Ext.w64_u8 Ext.i64_u32 Ext.w64_u32 
attribute [-simp] List.drop_one List.length_drop   -- a list that is cut keeps its form
set_option linter.unusedVariables false
set_option linter.unusedSimpArgs false



def errW : Option Int → Value
  | none => .nilIface
  | some c => .iface 0 (.int .i64 c)
theorem errW_none : errW none = .nilIface := rfl
theorem errW_some (c : Int) : errW (some c) = .iface 0 (.int .i64 c) := rfl

theorem info2 : (Tryd.prog.info? 2).map (fun i => (i.zero, i.size, i.bytes)) = some (some (.int .i64 0), 1, 8) := by kernel_rfl
theorem info3 : (Tryd.prog.info? 3).map (fun i => (i.zero, i.size, i.bytes)) = some (some (.int .i64 0), 1, 8) := by kernel_rfl
theorem info5 : (Tryd.prog.info? 5).map (fun i => (i.zero, i.size, i.bytes)) = some (some (.int .u8 0), 1, 1) := by kernel_rfl
theorem info9 : (Tryd.prog.info? 9).map (fun i => (i.zero, i.size, i.bytes)) = some (some (.string ⟨#[]⟩), 1, 16) := by kernel_rfl
-- the values' own types
/-! #### struct type 107 -/
structure S107 where
  f0 : Int
  f1 : Int
  f2 : Int
  f3 : Int
  f4 : Int
  f5 : Int
def z107 : S107 := ⟨(0 : Int), (0 : Int), (0 : Int), (0 : Int), (0 : Int), (0 : Int)⟩
def k107 : Kd S107 := Kd.iso (Kd.pair (Kd.int .i64) (Kd.pair (Kd.int .i64) (Kd.pair (Kd.int .u8) (Kd.pair (Kd.int .u8) (Kd.pair (Kd.int .u8) (Kd.int .u8)))))) (fun x : S107 => (x.f0, x.f1, x.f2, x.f3, x.f4, x.f5))
theorem k107_open {w : World} {x : S107} {cs : List Value} (h : k107.K w x cs) : cs = [.int .i64 x.f0, .int .i64 x.f1, .int .u8 x.f2, .int .u8 x.f3, .int .u8 x.f4, .int .u8 x.f5] := by
  obtain ⟨_, _, rfl, rfl, ⟨_, _, rfl, rfl, ⟨_, _, rfl, rfl, ⟨_, _, rfl, rfl, ⟨_, _, rfl, rfl, rfl⟩⟩⟩⟩⟩ := h
  exact rfl
theorem k107_openM {w : World} {base : Nat} {ok : Nat → Prop} {x : S107} {cs : List Value} (h : k107.M w base ok x cs) : cs = [.int .i64 x.f0, .int .i64 x.f1, .int .u8 x.f2, .int .u8 x.f3, .int .u8 x.f4, .int .u8 x.f5] := by
  obtain ⟨_, _, rfl, rfl, ⟨_, _, rfl, rfl, ⟨_, _, rfl, rfl, ⟨_, _, rfl, rfl, ⟨_, _, rfl, rfl, rfl⟩⟩⟩⟩⟩ := h
  exact rfl
theorem k107_mk (w : World) (x : S107)  : k107.K w x [.int .i64 x.f0, .int .i64 x.f1, .int .u8 x.f2, .int .u8 x.f3, .int .u8 x.f4, .int .u8 x.f5] := ⟨[.int .i64 x.f0], [.int .i64 x.f1, .int .u8 x.f2, .int .u8 x.f3, .int .u8 x.f4, .int .u8 x.f5], rfl, rfl, ⟨[.int .i64 x.f1], [.int .u8 x.f2, .int .u8 x.f3, .int .u8 x.f4, .int .u8 x.f5], rfl, rfl, ⟨[.int .u8 x.f2], [.int .u8 x.f3, .int .u8 x.f4, .int .u8 x.f5], rfl, rfl, ⟨[.int .u8 x.f3], [.int .u8 x.f4, .int .u8 x.f5], rfl, rfl, ⟨[.int .u8 x.f4], [.int .u8 x.f5], rfl, rfl, rfl⟩⟩⟩⟩⟩
theorem k107_mkM (w : World) (base : Nat) (ok : Nat → Prop) (x : S107)  : k107.M w base ok x [.int .i64 x.f0, .int .i64 x.f1, .int .u8 x.f2, .int .u8 x.f3, .int .u8 x.f4, .int .u8 x.f5] := ⟨[.int .i64 x.f0], [.int .i64 x.f1, .int .u8 x.f2, .int .u8 x.f3, .int .u8 x.f4, .int .u8 x.f5], rfl, rfl, ⟨[.int .i64 x.f1], [.int .u8 x.f2, .int .u8 x.f3, .int .u8 x.f4, .int .u8 x.f5], rfl, rfl, ⟨[.int .u8 x.f2], [.int .u8 x.f3, .int .u8 x.f4, .int .u8 x.f5], rfl, rfl, ⟨[.int .u8 x.f3], [.int .u8 x.f4, .int .u8 x.f5], rfl, rfl, ⟨[.int .u8 x.f4], [.int .u8 x.f5], rfl, rfl, rfl⟩⟩⟩⟩⟩
def rd_T107 (xs : List S107) (i : Int) : S107 := xs.getD i.toNat z107
theorem at_T107 {w : World} {A : Option Addr} {n : Nat} {xs : List S107} (h : Kd.C k107 w A n xs) (i : Int) (h0 : 0 ≤ i) (h1 : i < n) : ∃ ad , A = some ad ∧ w.cell? (ad.add (i.toNat * 6)) = some (.int .i64 (rd_T107 xs i).f0) ∧ w.cell? ⟨(ad.add (i.toNat * 6)).block, (ad.add (i.toNat * 6)).off + 1, none⟩ = some (.int .i64 (rd_T107 xs i).f1) ∧ w.cell? ⟨(ad.add (i.toNat * 6)).block, (ad.add (i.toNat * 6)).off + 2, none⟩ = some (.int .u8 (rd_T107 xs i).f2) ∧ w.cell? ⟨(ad.add (i.toNat * 6)).block, (ad.add (i.toNat * 6)).off + 3, none⟩ = some (.int .u8 (rd_T107 xs i).f3) ∧ w.cell? ⟨(ad.add (i.toNat * 6)).block, (ad.add (i.toNat * 6)).off + 4, none⟩ = some (.int .u8 (rd_T107 xs i).f4) ∧ w.cell? ⟨(ad.add (i.toNat * 6)).block, (ad.add (i.toNat * 6)).off + 5, none⟩ = some (.int .u8 (rd_T107 xs i).f5) := by
  obtain ⟨ad, c, e, _, hK, hc0⟩ := Kd.C_get h z107 i h0 h1
  have hc : ∀ j u, c[j]? = some u → w.cell? (ad.add (i.toNat * 6 + j)) = some u := hc0
  obtain rfl := k107_open hK
  exact ⟨ad, e, hc 0 _ rfl, by rw [← add_field _ _ 1 (by omega)]; exact hc 1 _ rfl, by rw [← add_field _ _ 2 (by omega)]; exact hc 2 _ rfl, by rw [← add_field _ _ 3 (by omega)]; exact hc 3 _ rfl, by rw [← add_field _ _ 4 (by omega)]; exact hc 4 _ rfl, by rw [← add_field _ _ 5 (by omega)]; exact hc 5 _ rfl⟩

/-! #### struct type 109 -/
structure S109 where
  f0 : Int
  f1 : Bool
  f2 : Int
  f3 : S107
def z109 : S109 := ⟨(0 : Int), false, (0 : Int), z107⟩
def k109 : Kd S109 := Kd.iso (Kd.pair (Kd.int .i64) (Kd.pair Kd.bool (Kd.pair (Kd.int .u8) k107))) (fun x : S109 => (x.f0, x.f1, x.f2, x.f3))
theorem k109_open {w : World} {x : S109} {cs : List Value} (h : k109.K w x cs) : cs = [.int .i64 x.f0, .bool x.f1, .int .u8 x.f2, .int .i64 x.f3.f0, .int .i64 x.f3.f1, .int .u8 x.f3.f2, .int .u8 x.f3.f3, .int .u8 x.f3.f4, .int .u8 x.f3.f5] := by
  obtain ⟨_, _, rfl, rfl, ⟨_, _, rfl, rfl, ⟨_, _, rfl, rfl, s3⟩⟩⟩ := h
  obtain rfl := k107_open s3
  exact rfl
theorem k109_openM {w : World} {base : Nat} {ok : Nat → Prop} {x : S109} {cs : List Value} (h : k109.M w base ok x cs) : cs = [.int .i64 x.f0, .bool x.f1, .int .u8 x.f2, .int .i64 x.f3.f0, .int .i64 x.f3.f1, .int .u8 x.f3.f2, .int .u8 x.f3.f3, .int .u8 x.f3.f4, .int .u8 x.f3.f5] := by
  obtain ⟨_, _, rfl, rfl, ⟨_, _, rfl, rfl, ⟨_, _, rfl, rfl, s3⟩⟩⟩ := h
  obtain rfl := k107_openM s3
  exact rfl
theorem k109_mk (w : World) (x : S109)  : k109.K w x [.int .i64 x.f0, .bool x.f1, .int .u8 x.f2, .int .i64 x.f3.f0, .int .i64 x.f3.f1, .int .u8 x.f3.f2, .int .u8 x.f3.f3, .int .u8 x.f3.f4, .int .u8 x.f3.f5] := ⟨[.int .i64 x.f0], [.bool x.f1, .int .u8 x.f2, .int .i64 x.f3.f0, .int .i64 x.f3.f1, .int .u8 x.f3.f2, .int .u8 x.f3.f3, .int .u8 x.f3.f4, .int .u8 x.f3.f5], rfl, rfl, ⟨[.bool x.f1], [.int .u8 x.f2, .int .i64 x.f3.f0, .int .i64 x.f3.f1, .int .u8 x.f3.f2, .int .u8 x.f3.f3, .int .u8 x.f3.f4, .int .u8 x.f3.f5], rfl, rfl, ⟨[.int .u8 x.f2], [.int .i64 x.f3.f0, .int .i64 x.f3.f1, .int .u8 x.f3.f2, .int .u8 x.f3.f3, .int .u8 x.f3.f4, .int .u8 x.f3.f5], rfl, rfl, (k107_mk w x.f3 )⟩⟩⟩
theorem k109_mkM (w : World) (base : Nat) (ok : Nat → Prop) (x : S109)  : k109.M w base ok x [.int .i64 x.f0, .bool x.f1, .int .u8 x.f2, .int .i64 x.f3.f0, .int .i64 x.f3.f1, .int .u8 x.f3.f2, .int .u8 x.f3.f3, .int .u8 x.f3.f4, .int .u8 x.f3.f5] := ⟨[.int .i64 x.f0], [.bool x.f1, .int .u8 x.f2, .int .i64 x.f3.f0, .int .i64 x.f3.f1, .int .u8 x.f3.f2, .int .u8 x.f3.f3, .int .u8 x.f3.f4, .int .u8 x.f3.f5], rfl, rfl, ⟨[.bool x.f1], [.int .u8 x.f2, .int .i64 x.f3.f0, .int .i64 x.f3.f1, .int .u8 x.f3.f2, .int .u8 x.f3.f3, .int .u8 x.f3.f4, .int .u8 x.f3.f5], rfl, rfl, ⟨[.int .u8 x.f2], [.int .i64 x.f3.f0, .int .i64 x.f3.f1, .int .u8 x.f3.f2, .int .u8 x.f3.f3, .int .u8 x.f3.f4, .int .u8 x.f3.f5], rfl, rfl, (k107_mkM w base ok x.f3 )⟩⟩⟩
def rd_T109 (xs : List S109) (i : Int) : S109 := xs.getD i.toNat z109
theorem at_T109 {w : World} {A : Option Addr} {n : Nat} {xs : List S109} (h : Kd.C k109 w A n xs) (i : Int) (h0 : 0 ≤ i) (h1 : i < n) : ∃ ad , A = some ad ∧ w.cell? (ad.add (i.toNat * 9)) = some (.int .i64 (rd_T109 xs i).f0) ∧ w.cell? ⟨(ad.add (i.toNat * 9)).block, (ad.add (i.toNat * 9)).off + 1, none⟩ = some (.bool (rd_T109 xs i).f1) ∧ w.cell? ⟨(ad.add (i.toNat * 9)).block, (ad.add (i.toNat * 9)).off + 2, none⟩ = some (.int .u8 (rd_T109 xs i).f2) ∧ w.cell? ⟨(ad.add (i.toNat * 9)).block, (ad.add (i.toNat * 9)).off + 3, none⟩ = some (.int .i64 (rd_T109 xs i).f3.f0) ∧ w.cell? ⟨(ad.add (i.toNat * 9)).block, (ad.add (i.toNat * 9)).off + 4, none⟩ = some (.int .i64 (rd_T109 xs i).f3.f1) ∧ w.cell? ⟨(ad.add (i.toNat * 9)).block, (ad.add (i.toNat * 9)).off + 5, none⟩ = some (.int .u8 (rd_T109 xs i).f3.f2) ∧ w.cell? ⟨(ad.add (i.toNat * 9)).block, (ad.add (i.toNat * 9)).off + 6, none⟩ = some (.int .u8 (rd_T109 xs i).f3.f3) ∧ w.cell? ⟨(ad.add (i.toNat * 9)).block, (ad.add (i.toNat * 9)).off + 7, none⟩ = some (.int .u8 (rd_T109 xs i).f3.f4) ∧ w.cell? ⟨(ad.add (i.toNat * 9)).block, (ad.add (i.toNat * 9)).off + 8, none⟩ = some (.int .u8 (rd_T109 xs i).f3.f5) := by
  obtain ⟨ad, c, e, _, hK, hc0⟩ := Kd.C_get h z109 i h0 h1
  have hc : ∀ j u, c[j]? = some u → w.cell? (ad.add (i.toNat * 9 + j)) = some u := hc0
  obtain rfl := k109_open hK
  exact ⟨ad, e, hc 0 _ rfl, by rw [← add_field _ _ 1 (by omega)]; exact hc 1 _ rfl, by rw [← add_field _ _ 2 (by omega)]; exact hc 2 _ rfl, by rw [← add_field _ _ 3 (by omega)]; exact hc 3 _ rfl, by rw [← add_field _ _ 4 (by omega)]; exact hc 4 _ rfl, by rw [← add_field _ _ 5 (by omega)]; exact hc 5 _ rfl, by rw [← add_field _ _ 6 (by omega)]; exact hc 6 _ rfl, by rw [← add_field _ _ 7 (by omega)]; exact hc 7 _ rfl, by rw [← add_field _ _ 8 (by omega)]; exact hc 8 _ rfl⟩

end Go.Proofs.YtplmmblofhhikaaDoor.PM
