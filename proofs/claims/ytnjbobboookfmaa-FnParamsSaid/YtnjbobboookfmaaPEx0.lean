-- Written by wip/pp.py, a program of this session, out of the translation. Not trusted: Lean checks it.
import Derived.Test.YtnjbobboookfmaaProg
import Derived.Below
import Derived.Deep.Draws
import Derived.Deep.AppendLies
import Derived.Maps.AppendAt
import Derived.OwnWalk
import Derived.Laws.BytesArg
import Derived.Laws.MakeOwn
import Derived.Laws.OwnMore
import Derived.Deep.OwnRows
import Derived.Tactics
import Derived.Lib.ConvBytes
import Derived.Laws.Slices
import Derived.WalkKit
import Derived.KernelRfl
import Derived.RowKit3
import Derived.Deep.LoopGhost
import Derived.Deep.QuietTactic
import Derived.BigQuiet
import Derived.WideLaws
import Derived.Deep.DeepCutAuto
import Derived.Deep.CutBlock
import Derived.Deep.RegionHeld3
import Derived.Laws.Rows
import Derived.Lib.AppendStr
import Derived.ArgAppend
import Derived.Laws.IdiomCopy
import Derived.OrdersHeld
import Derived.Laws.BitsLemmas
import Derived.RowKit
import Derived.Test.YtnjbobboookfmaaExt
import Derived.Test.YtnjbobboookfmaaExt2
import Derived.Laws.Runes
import Derived.Test.YtnjbobboookfmaaWWords
import Derived.Test.YtnjbobboookfmaaWLast
import Derived.Test.YtnjbobboookfmaaWTab
import Derived.Test.YtnjbobboookfmaaWFour
import Derived.Test.YtnjbobboookfmaaWQPut
import Derived.Test.YtnjbobboookfmaaWApart
import Derived.Test.YtnjbobboookfmaaWArr
import Derived.Test.YtnjbobboookfmaaWZeros
import Derived.Test.YtnjbobboookfmaaWFoot
import Derived.Test.YtnjbobboookfmaaWKept
import Derived.Test.YtnjbobboookfmaaWShare
import Derived.Test.YtnjbobboookfmaaWN
import Derived.Test.YtnjbobboookfmaaWFootNe
import Derived.Test.YtnjbobboookfmaaWAt
import Derived.Test.YtnjbobboookfmaaWEqStruct
import Derived.Test.YtnjbobboookfmaaWRepsOne
import Derived.Test.YtnjbobboookfmaaWInv
import Derived.Test.YtnjbobboookfmaaWInvWords
import Derived.Test.YtnjbobboookfmaaWGuard
import Derived.Test.YtnjbobboookfmaaWNEv
import Derived.Test.YtnjbobboookfmaaWMore
namespace Go.Proofs.Ytnjbobboookfmaa.PE
open Go.RowKit Go.Proofs.YtnjbobboookfmaaW.PrintWords Go.Proofs.YtnjbobboookfmaaW.PrintLast Go.Proofs.YtnjbobboookfmaaW.PrintMore
attribute [local go_sem] max2_int min2_int max_two min_two max_three min_three max_four min_four   -- for this text's walks alone
attribute [local go_sem] Go.Proofs.Ytnjbobboookfmaa.Ext.wrap64_mod256 Go.Proofs.Ytnjbobboookfmaa.Ext.wrap64_mod32 Go.Proofs.Ytnjbobboookfmaa.Ext.i64_mod256 Go.Proofs.Ytnjbobboookfmaa.Ext.i64_mod32 Go.Proofs.Ytnjbobboookfmaa.Ext.i64_u8 Go.Proofs.Ytnjbobboookfmaa.Ext.w64_u8 Go.Proofs.Ytnjbobboookfmaa.Ext.i64_u32 Go.Proofs.Ytnjbobboookfmaa.Ext.w64_u32 
set_option linter.unusedVariables false
set_option linter.unusedSimpArgs false



def errW : Option Int → Value
  | none => .nilIface
  | some c => .iface 0 (.int .i64 c)
theorem errW_none : errW none = .nilIface := rfl
theorem errW_some (c : Int) : errW (some c) = .iface 0 (.int .i64 c) := rfl

theorem info2 : (Try.prog.info? 2).map (fun i => (i.zero, i.size, i.bytes)) = some (some (.int .i64 0), 1, 8) := by kernel_rfl
theorem info3 : (Try.prog.info? 3).map (fun i => (i.zero, i.size, i.bytes)) = some (some (.int .i64 0), 1, 8) := by kernel_rfl
theorem info48 : (Try.prog.info? 48).map (fun i => (i.zero, i.size, i.bytes)) = some (some (.agg #[(.int .i64 0), (.bool false), (.bool false), (.int .i64 0), (.bool false), (.slice none 0 0)]), 6, 56) := by kernel_rfl
theorem info76 : (Try.prog.info? 76).map (fun i => (i.zero, i.size, i.bytes)) = some (some (.int .i64 0), 1, 8) := by kernel_rfl
-- the values' own types
def rd_L2 (xs : List (List Int)) (i : Int) : (List Int) := xs.getD i.toNat ([] : List Int)
theorem at_L2 {w : World} {A : Option Addr} {n : Nat} {xs : List (List Int)} (h : Kd.C (Kd.slice 2 (Kd.int .i64)) w A n xs) (i : Int) (h0 : 0 ≤ i) (h1 : i < n) : ∃ ad A0 c0, A = some ad ∧ w.cell? (ad.add i.toNat) = some (.slice A0 (rd_L2 xs i).length c0) ∧ (rd_L2 xs i).length ≤ c0 ∧ (Kd.int .i64).C w A0 (rd_L2 xs i).length (rd_L2 xs i) := by
  obtain ⟨ad, c, e, _, hK, hc0⟩ := Kd.C_get h ([] : List Int) i h0 h1
  have hc : ∀ j u, c[j]? = some u → w.cell? (ad.add (i.toNat * 1 + j)) = some u := hc0
  obtain ⟨A0, c0, rfl, l0, g0⟩ := hK
  exact ⟨ad, A0, c0, e, by have hq := hc 0 _ rfl; rwa [Nat.mul_one, Nat.add_zero] at hq, l0, g0⟩

/-! #### struct type 48 -/
structure S48 where
  f0 : Int
  f1 : Bool
  f2 : Bool
  f3 : Int
  f4 : Bool
  f5 : (List Int)
def z48 : S48 := ⟨(0 : Int), false, false, (0 : Int), false, ([] : List Int)⟩
def k48 : Kd S48 := Kd.iso (Kd.pair (Kd.int .i64) (Kd.pair Kd.bool (Kd.pair Kd.bool (Kd.pair (Kd.int .i64) (Kd.pair Kd.bool (Kd.slice 2 (Kd.int .i64))))))) (fun x : S48 => (x.f0, x.f1, x.f2, x.f3, x.f4, x.f5))
theorem k48_open {w : World} {x : S48} {cs : List Value} (h : k48.K w x cs) : ∃ A5 c5, cs = [.int .i64 x.f0, .bool x.f1, .bool x.f2, .int .i64 x.f3, .bool x.f4, .slice A5 x.f5.length c5] ∧ x.f5.length ≤ c5 ∧ (Kd.int .i64).C w A5 x.f5.length x.f5 := by
  obtain ⟨_, _, rfl, rfl, ⟨_, _, rfl, rfl, ⟨_, _, rfl, rfl, ⟨_, _, rfl, rfl, ⟨_, _, rfl, rfl, ⟨A5, c5, rfl, l5, g5⟩⟩⟩⟩⟩⟩ := h
  exact ⟨A5, c5, rfl, l5, g5⟩
theorem k48_openM {w : World} {base : Nat} {ok : Nat → Prop} {x : S48} {cs : List Value} (h : k48.M w base ok x cs) : ∃ v5, cs = [.int .i64 x.f0, .bool x.f1, .bool x.f2, .int .i64 x.f3, .bool x.f4, v5] ∧ (Kd.int .i64).R 2 w base ok v5 x.f5 := by
  obtain ⟨_, _, rfl, rfl, ⟨_, _, rfl, rfl, ⟨_, _, rfl, rfl, ⟨_, _, rfl, rfl, ⟨_, _, rfl, rfl, ⟨v5, rfl, g5⟩⟩⟩⟩⟩⟩ := h
  exact ⟨v5, rfl, g5⟩
theorem k48_mk (w : World) (x : S48) {A5 : Option Addr} {c5 : Nat} (l5 : x.f5.length ≤ c5) (g5 : (Kd.int .i64).C w A5 x.f5.length x.f5) : k48.K w x [.int .i64 x.f0, .bool x.f1, .bool x.f2, .int .i64 x.f3, .bool x.f4, .slice A5 x.f5.length c5] := ⟨[.int .i64 x.f0], [.bool x.f1, .bool x.f2, .int .i64 x.f3, .bool x.f4, .slice A5 x.f5.length c5], rfl, rfl, ⟨[.bool x.f1], [.bool x.f2, .int .i64 x.f3, .bool x.f4, .slice A5 x.f5.length c5], rfl, rfl, ⟨[.bool x.f2], [.int .i64 x.f3, .bool x.f4, .slice A5 x.f5.length c5], rfl, rfl, ⟨[.int .i64 x.f3], [.bool x.f4, .slice A5 x.f5.length c5], rfl, rfl, ⟨[.bool x.f4], [.slice A5 x.f5.length c5], rfl, rfl, ⟨A5, c5, rfl, l5, g5⟩⟩⟩⟩⟩⟩
theorem k48_mkM (w : World) (base : Nat) (ok : Nat → Prop) (x : S48) {v5 : Value} (g5 : (Kd.int .i64).R 2 w base ok v5 x.f5) : k48.M w base ok x [.int .i64 x.f0, .bool x.f1, .bool x.f2, .int .i64 x.f3, .bool x.f4, v5] := ⟨[.int .i64 x.f0], [.bool x.f1, .bool x.f2, .int .i64 x.f3, .bool x.f4, v5], rfl, rfl, ⟨[.bool x.f1], [.bool x.f2, .int .i64 x.f3, .bool x.f4, v5], rfl, rfl, ⟨[.bool x.f2], [.int .i64 x.f3, .bool x.f4, v5], rfl, rfl, ⟨[.int .i64 x.f3], [.bool x.f4, v5], rfl, rfl, ⟨[.bool x.f4], [v5], rfl, rfl, ⟨v5, rfl, g5⟩⟩⟩⟩⟩⟩
def rd_T48 (xs : List S48) (i : Int) : S48 := xs.getD i.toNat z48
theorem at_T48 {w : World} {A : Option Addr} {n : Nat} {xs : List S48} (h : Kd.C k48 w A n xs) (i : Int) (h0 : 0 ≤ i) (h1 : i < n) : ∃ ad A5 c5, A = some ad ∧ w.cell? (ad.add (i.toNat * 6)) = some (.int .i64 (rd_T48 xs i).f0) ∧ w.cell? ⟨(ad.add (i.toNat * 6)).block, (ad.add (i.toNat * 6)).off + 1, none⟩ = some (.bool (rd_T48 xs i).f1) ∧ w.cell? ⟨(ad.add (i.toNat * 6)).block, (ad.add (i.toNat * 6)).off + 2, none⟩ = some (.bool (rd_T48 xs i).f2) ∧ w.cell? ⟨(ad.add (i.toNat * 6)).block, (ad.add (i.toNat * 6)).off + 3, none⟩ = some (.int .i64 (rd_T48 xs i).f3) ∧ w.cell? ⟨(ad.add (i.toNat * 6)).block, (ad.add (i.toNat * 6)).off + 4, none⟩ = some (.bool (rd_T48 xs i).f4) ∧ w.cell? ⟨(ad.add (i.toNat * 6)).block, (ad.add (i.toNat * 6)).off + 5, none⟩ = some (.slice A5 (rd_T48 xs i).f5.length c5) ∧ (rd_T48 xs i).f5.length ≤ c5 ∧ (Kd.int .i64).C w A5 (rd_T48 xs i).f5.length (rd_T48 xs i).f5 := by
  obtain ⟨ad, c, e, _, hK, hc0⟩ := Kd.C_get h z48 i h0 h1
  have hc : ∀ j u, c[j]? = some u → w.cell? (ad.add (i.toNat * 6 + j)) = some u := hc0
  obtain ⟨A5, c5, rfl, l5, g5⟩ := k48_open hK
  exact ⟨ad, A5, c5, e, hc 0 _ rfl, by rw [← add_field _ _ 1 (by omega)]; exact hc 1 _ rfl, by rw [← add_field _ _ 2 (by omega)]; exact hc 2 _ rfl, by rw [← add_field _ _ 3 (by omega)]; exact hc 3 _ rfl, by rw [← add_field _ _ 4 (by omega)]; exact hc 4 _ rfl, by rw [← add_field _ _ 5 (by omega)]; exact hc 5 _ rfl, l5, g5⟩

end Go.Proofs.Ytnjbobboookfmaa.PE
