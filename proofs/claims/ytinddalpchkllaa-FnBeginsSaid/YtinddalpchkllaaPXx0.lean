-- Written by wip/pp.py, a program of this session, out of the translation. Not trusted: Lean checks it.
import Derived.Test.YtinddalpchkllaaProg
import Derived.Below
import Derived.Deep.Draws
import Derived.Deep.AppendLies
import Derived.Maps.AppendAt
import Derived.OwnWalk
import Derived.Laws.BytesArg
import Derived.Laws.MakeOwn
import Derived.Laws.OwnMore
import Derived.Deep.OwnRows
import Derived.Tactics
import Derived.Lib.ConvBytes
import Derived.Laws.Slices
import Derived.WalkKit
import Derived.KernelRfl
import Derived.RowKit3
import Derived.Deep.LoopGhost
import Derived.Deep.QuietTactic
import Derived.BigQuiet
import Derived.WideLaws
import Derived.Deep.DeepCutAuto
import Derived.Deep.CutBlock
import Derived.Deep.RegionHeld3
import Derived.Laws.Rows
import Derived.Lib.AppendStr
import Derived.ArgAppend
import Derived.Laws.IdiomCopy
import Derived.OrdersHeld
import Derived.Laws.BitsLemmas
import Derived.RowKit
import Derived.Test.YtinddalpchkllaaExt
import Derived.Test.YtinddalpchkllaaExt2
import Derived.Laws.Runes
import Derived.Test.YtinddalpchkllaaOr
import Derived.Test.YtinddalpchkllaaWWords
import Derived.Test.YtinddalpchkllaaWLast
import Derived.Test.YtinddalpchkllaaWTab
import Derived.Test.YtinddalpchkllaaWFour
import Derived.Test.YtinddalpchkllaaWQPut
import Derived.Test.YtinddalpchkllaaWApart
import Derived.Test.YtinddalpchkllaaWArr
import Derived.Test.YtinddalpchkllaaWZeros
import Derived.Test.YtinddalpchkllaaWFoot
import Derived.Test.YtinddalpchkllaaWKept
import Derived.Test.YtinddalpchkllaaWShare
import Derived.Test.YtinddalpchkllaaWN
import Derived.Test.YtinddalpchkllaaWFootNe
import Derived.Test.YtinddalpchkllaaWAt
import Derived.Test.YtinddalpchkllaaWEqStruct
import Derived.Test.YtinddalpchkllaaWRepsOne
import Derived.Test.YtinddalpchkllaaWInv
import Derived.Test.YtinddalpchkllaaWInvWords
import Derived.Test.YtinddalpchkllaaWGuard
import Derived.Test.YtinddalpchkllaaWNEv
import Derived.Test.YtinddalpchkllaaWMore
namespace Go.Proofs.Ytinddalpchkllaa.PX
open Go.RowKit Go.Proofs.Ytinddalpchkllaa.Or Go.Proofs.YtinddalpchkllaaW.PrintWords Go.Proofs.YtinddalpchkllaaW.PrintLast Go.Proofs.YtinddalpchkllaaW.PrintMore
attribute [local go_sem] max2_int min2_int max_two min_two max_three min_three max_four min_four   -- for this text's walks alone
attribute [local go_sem] Go.Proofs.Ytinddalpchkllaa.Ext.wrap64_mod256 Go.Proofs.Ytinddalpchkllaa.Ext.wrap64_mod32 Go.Proofs.Ytinddalpchkllaa.Ext.i64_mod256 Go.Proofs.Ytinddalpchkllaa.Ext.i64_mod32 Go.Proofs.Ytinddalpchkllaa.Ext.i64_u8 Go.Proofs.Ytinddalpchkllaa.Ext.w64_u8 Go.Proofs.Ytinddalpchkllaa.Ext.i64_u32 Go.Proofs.Ytinddalpchkllaa.Ext.w64_u32 
set_option linter.unusedVariables false
set_option linter.unusedSimpArgs false



def errW : Option Int → Value
  | none => .nilIface
  | some c => .iface 0 (.int .i64 c)
theorem errW_none : errW none = .nilIface := rfl
theorem errW_some (c : Int) : errW (some c) = .iface 0 (.int .i64 c) := rfl

theorem info2 : (Try.prog.info? 2).map (fun i => (i.zero, i.size, i.bytes)) = some (some (.int .i64 0), 1, 8) := by kernel_rfl
theorem info3 : (Try.prog.info? 3).map (fun i => (i.zero, i.size, i.bytes)) = some (some (.int .i64 0), 1, 8) := by kernel_rfl
theorem info5 : (Try.prog.info? 5).map (fun i => (i.zero, i.size, i.bytes)) = some (some (.int .u8 0), 1, 1) := by kernel_rfl
theorem info50 : (Try.prog.info? 50).map (fun i => (i.zero, i.size, i.bytes)) = some (some (.agg #[(.int .i64 0), (.bool false), (.bool false), (.int .i64 0), (.bool false), (.slice none 0 0)]), 6, 56) := by kernel_rfl
theorem info57 : (Try.prog.info? 57).map (fun i => (i.zero, i.size, i.bytes)) = some (some (.int .i64 0), 1, 8) := by kernel_rfl
-- the values' own types
def rd_L3 (xs : List (List Int)) (i : Int) : (List Int) := xs.getD i.toNat ([] : List Int)
theorem at_L3 {w : World} {A : Option Addr} {n : Nat} {xs : List (List Int)} (h : Kd.C (Kd.slice 2 (Kd.int .i64)) w A n xs) (i : Int) (h0 : 0 ≤ i) (h1 : i < n) : ∃ ad A0 c0, A = some ad ∧ w.cell? (ad.add i.toNat) = some (.slice A0 (rd_L3 xs i).length c0) ∧ (rd_L3 xs i).length ≤ c0 ∧ (Kd.int .i64).C w A0 (rd_L3 xs i).length (rd_L3 xs i) := by
  obtain ⟨ad, c, e, _, hK, hc0⟩ := Kd.C_get h ([] : List Int) i h0 h1
  have hc : ∀ j u, c[j]? = some u → w.cell? (ad.add (i.toNat * 1 + j)) = some u := hc0
  obtain ⟨A0, c0, rfl, l0, g0⟩ := hK
  exact ⟨ad, A0, c0, e, by have hq := hc 0 _ rfl; rwa [Nat.mul_one, Nat.add_zero] at hq, l0, g0⟩

/-! #### struct type 50 -/
structure S50 where
  f0 : Int
  f1 : Bool
  f2 : Bool
  f3 : Int
  f4 : Bool
  f5 : (List Int)
def z50 : S50 := ⟨(0 : Int), false, false, (0 : Int), false, ([] : List Int)⟩
def k50 : Kd S50 := Kd.iso (Kd.pair (Kd.int .i64) (Kd.pair Kd.bool (Kd.pair Kd.bool (Kd.pair (Kd.int .i64) (Kd.pair Kd.bool (Kd.slice 2 (Kd.int .i64))))))) (fun x : S50 => (x.f0, x.f1, x.f2, x.f3, x.f4, x.f5))
theorem k50_open {w : World} {x : S50} {cs : List Value} (h : k50.K w x cs) : ∃ A5 c5, cs = [.int .i64 x.f0, .bool x.f1, .bool x.f2, .int .i64 x.f3, .bool x.f4, .slice A5 x.f5.length c5] ∧ x.f5.length ≤ c5 ∧ (Kd.int .i64).C w A5 x.f5.length x.f5 := by
  obtain ⟨_, _, rfl, rfl, ⟨_, _, rfl, rfl, ⟨_, _, rfl, rfl, ⟨_, _, rfl, rfl, ⟨_, _, rfl, rfl, ⟨A5, c5, rfl, l5, g5⟩⟩⟩⟩⟩⟩ := h
  exact ⟨A5, c5, rfl, l5, g5⟩
theorem k50_openM {w : World} {base : Nat} {ok : Nat → Prop} {x : S50} {cs : List Value} (h : k50.M w base ok x cs) : ∃ v5, cs = [.int .i64 x.f0, .bool x.f1, .bool x.f2, .int .i64 x.f3, .bool x.f4, v5] ∧ (Kd.int .i64).R 2 w base ok v5 x.f5 := by
  obtain ⟨_, _, rfl, rfl, ⟨_, _, rfl, rfl, ⟨_, _, rfl, rfl, ⟨_, _, rfl, rfl, ⟨_, _, rfl, rfl, ⟨v5, rfl, g5⟩⟩⟩⟩⟩⟩ := h
  exact ⟨v5, rfl, g5⟩
theorem k50_mk (w : World) (x : S50) {A5 : Option Addr} {c5 : Nat} (l5 : x.f5.length ≤ c5) (g5 : (Kd.int .i64).C w A5 x.f5.length x.f5) : k50.K w x [.int .i64 x.f0, .bool x.f1, .bool x.f2, .int .i64 x.f3, .bool x.f4, .slice A5 x.f5.length c5] := ⟨[.int .i64 x.f0], [.bool x.f1, .bool x.f2, .int .i64 x.f3, .bool x.f4, .slice A5 x.f5.length c5], rfl, rfl, ⟨[.bool x.f1], [.bool x.f2, .int .i64 x.f3, .bool x.f4, .slice A5 x.f5.length c5], rfl, rfl, ⟨[.bool x.f2], [.int .i64 x.f3, .bool x.f4, .slice A5 x.f5.length c5], rfl, rfl, ⟨[.int .i64 x.f3], [.bool x.f4, .slice A5 x.f5.length c5], rfl, rfl, ⟨[.bool x.f4], [.slice A5 x.f5.length c5], rfl, rfl, ⟨A5, c5, rfl, l5, g5⟩⟩⟩⟩⟩⟩
theorem k50_mkM (w : World) (base : Nat) (ok : Nat → Prop) (x : S50) {v5 : Value} (g5 : (Kd.int .i64).R 2 w base ok v5 x.f5) : k50.M w base ok x [.int .i64 x.f0, .bool x.f1, .bool x.f2, .int .i64 x.f3, .bool x.f4, v5] := ⟨[.int .i64 x.f0], [.bool x.f1, .bool x.f2, .int .i64 x.f3, .bool x.f4, v5], rfl, rfl, ⟨[.bool x.f1], [.bool x.f2, .int .i64 x.f3, .bool x.f4, v5], rfl, rfl, ⟨[.bool x.f2], [.int .i64 x.f3, .bool x.f4, v5], rfl, rfl, ⟨[.int .i64 x.f3], [.bool x.f4, v5], rfl, rfl, ⟨[.bool x.f4], [v5], rfl, rfl, ⟨v5, rfl, g5⟩⟩⟩⟩⟩⟩
def rd_T50 (xs : List S50) (i : Int) : S50 := xs.getD i.toNat z50
theorem at_T50 {w : World} {A : Option Addr} {n : Nat} {xs : List S50} (h : Kd.C k50 w A n xs) (i : Int) (h0 : 0 ≤ i) (h1 : i < n) : ∃ ad A5 c5, A = some ad ∧ w.cell? (ad.add (i.toNat * 6)) = some (.int .i64 (rd_T50 xs i).f0) ∧ w.cell? ⟨(ad.add (i.toNat * 6)).block, (ad.add (i.toNat * 6)).off + 1, none⟩ = some (.bool (rd_T50 xs i).f1) ∧ w.cell? ⟨(ad.add (i.toNat * 6)).block, (ad.add (i.toNat * 6)).off + 2, none⟩ = some (.bool (rd_T50 xs i).f2) ∧ w.cell? ⟨(ad.add (i.toNat * 6)).block, (ad.add (i.toNat * 6)).off + 3, none⟩ = some (.int .i64 (rd_T50 xs i).f3) ∧ w.cell? ⟨(ad.add (i.toNat * 6)).block, (ad.add (i.toNat * 6)).off + 4, none⟩ = some (.bool (rd_T50 xs i).f4) ∧ w.cell? ⟨(ad.add (i.toNat * 6)).block, (ad.add (i.toNat * 6)).off + 5, none⟩ = some (.slice A5 (rd_T50 xs i).f5.length c5) ∧ (rd_T50 xs i).f5.length ≤ c5 ∧ (Kd.int .i64).C w A5 (rd_T50 xs i).f5.length (rd_T50 xs i).f5 := by
  obtain ⟨ad, c, e, _, hK, hc0⟩ := Kd.C_get h z50 i h0 h1
  have hc : ∀ j u, c[j]? = some u → w.cell? (ad.add (i.toNat * 6 + j)) = some u := hc0
  obtain ⟨A5, c5, rfl, l5, g5⟩ := k50_open hK
  exact ⟨ad, A5, c5, e, hc 0 _ rfl, by rw [← add_field _ _ 1 (by omega)]; exact hc 1 _ rfl, by rw [← add_field _ _ 2 (by omega)]; exact hc 2 _ rfl, by rw [← add_field _ _ 3 (by omega)]; exact hc 3 _ rfl, by rw [← add_field _ _ 4 (by omega)]; exact hc 4 _ rfl, by rw [← add_field _ _ 5 (by omega)]; exact hc 5 _ rfl, l5, g5⟩

end Go.Proofs.Ytinddalpchkllaa.PX
