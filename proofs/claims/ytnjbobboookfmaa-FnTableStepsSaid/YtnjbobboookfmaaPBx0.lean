-- Written by wip/pp.py, a program of this session, out of the translation. Not trusted: Lean checks it.
import Derived.Test.YtnjbobboookfmaaProg
import Derived.Below
import Derived.Deep.Draws
import Derived.Deep.AppendLies
import Derived.Maps.AppendAt
import Derived.OwnWalk
import Derived.Laws.BytesArg
import Derived.Laws.MakeOwn
import Derived.Laws.OwnMore
import Derived.Deep.OwnRows
import Derived.Tactics
import Derived.Lib.ConvBytes
import Derived.Laws.Slices
import Derived.WalkKit
import Derived.KernelRfl
import Derived.RowKit3
import Derived.Deep.LoopGhost
import Derived.Deep.QuietTactic
import Derived.BigQuiet
import Derived.WideLaws
import Derived.Deep.DeepCutAuto
import Derived.Deep.CutBlock
import Derived.Deep.RegionHeld3
import Derived.Laws.Rows
import Derived.Lib.AppendStr
import Derived.ArgAppend
import Derived.Laws.IdiomCopy
import Derived.OrdersHeld
import Derived.Laws.BitsLemmas
import Derived.RowKit
import Derived.Test.YtnjbobboookfmaaExt
import Derived.Test.YtnjbobboookfmaaExt2
import Derived.Laws.Runes
import Derived.Test.YtnjbobboookfmaaOr
import Derived.Test.YtnjbobboookfmaaWWords
import Derived.Test.YtnjbobboookfmaaWLast
import Derived.Test.YtnjbobboookfmaaWTab
import Derived.Test.YtnjbobboookfmaaWFour
import Derived.Test.YtnjbobboookfmaaWQPut
import Derived.Test.YtnjbobboookfmaaWApart
import Derived.Test.YtnjbobboookfmaaWArr
import Derived.Test.YtnjbobboookfmaaWZeros
import Derived.Test.YtnjbobboookfmaaWFoot
import Derived.Test.YtnjbobboookfmaaWKept
import Derived.Test.YtnjbobboookfmaaWShare
import Derived.Test.YtnjbobboookfmaaWN
import Derived.Test.YtnjbobboookfmaaWFootNe
import Derived.Test.YtnjbobboookfmaaWAt
import Derived.Test.YtnjbobboookfmaaWEqStruct
import Derived.Test.YtnjbobboookfmaaWRepsOne
import Derived.Test.YtnjbobboookfmaaWInv
import Derived.Test.YtnjbobboookfmaaWInvWords
import Derived.Test.YtnjbobboookfmaaWGuard
import Derived.Test.YtnjbobboookfmaaWNEv
import Derived.Test.YtnjbobboookfmaaWMore
namespace Go.Proofs.Ytnjbobboookfmaa.PB
open Go.RowKit Go.Proofs.Ytnjbobboookfmaa.Or Go.Proofs.YtnjbobboookfmaaW.PrintWords Go.Proofs.YtnjbobboookfmaaW.PrintLast Go.Proofs.YtnjbobboookfmaaW.PrintMore
attribute [local go_sem] max2_int min2_int max_two min_two max_three min_three max_four min_four   -- for this text's walks alone
attribute [local go_sem] Go.Proofs.Ytnjbobboookfmaa.Ext.wrap64_mod256 Go.Proofs.Ytnjbobboookfmaa.Ext.wrap64_mod32 Go.Proofs.Ytnjbobboookfmaa.Ext.i64_mod256 Go.Proofs.Ytnjbobboookfmaa.Ext.i64_mod32 Go.Proofs.Ytnjbobboookfmaa.Ext.i64_u8 Go.Proofs.Ytnjbobboookfmaa.Ext.w64_u8 Go.Proofs.Ytnjbobboookfmaa.Ext.i64_u32 Go.Proofs.Ytnjbobboookfmaa.Ext.w64_u32 
set_option linter.unusedVariables false
set_option linter.unusedSimpArgs false



def errW : Option Int → Value
  | none => .nilIface
  | some c => .iface 0 (.int .i64 c)
theorem errW_none : errW none = .nilIface := rfl
theorem errW_some (c : Int) : errW (some c) = .iface 0 (.int .i64 c) := rfl

theorem info5 : (Try.prog.info? 5).map (fun i => (i.zero, i.size, i.bytes)) = some (some (.int .u8 0), 1, 1) := by kernel_rfl
theorem info27 : (Try.prog.info? 27).map (fun i => (i.zero, i.size, i.bytes)) = some (some (.agg #[(.int .i64 0), (.int .u8 0), (.int .u8 0), (.int .u8 0), (.slice none 0 0), (.int .u8 0), (.int .u8 0)]), 7, 48) := by kernel_rfl
theorem info30 : (Try.prog.info? 30).map (fun i => (i.zero, i.size, i.bytes)) = some (some (.agg #[(.int .i64 0), (.int .u8 0), (.int .u8 0), (.int .u8 0), (.int .u8 0), (.int .u8 0), (.slice none 0 0)]), 7, 40) := by kernel_rfl
theorem info32 : (Try.prog.info? 32).map (fun i => (i.zero, i.size, i.bytes)) = some (some (.agg #[(.int .u8 0), (.int .u8 0)]), 2, 2) := by kernel_rfl
theorem info39 : (Try.prog.info? 39).map (fun i => (i.zero, i.size, i.bytes)) = some (some (.agg #[(.int .u8 0), (.int .u8 0)]), 2, 2) := by kernel_rfl
-- the values' own types
def rd_L2 (xs : List (List Int)) (i : Int) : (List Int) := xs.getD i.toNat ([] : List Int)
theorem at_L2 {w : World} {A : Option Addr} {n : Nat} {xs : List (List Int)} (h : Kd.C (Kd.slice 5 (Kd.int .u8)) w A n xs) (i : Int) (h0 : 0 ≤ i) (h1 : i < n) : ∃ ad A0 c0, A = some ad ∧ w.cell? (ad.add i.toNat) = some (.slice A0 (rd_L2 xs i).length c0) ∧ (rd_L2 xs i).length ≤ c0 ∧ (Kd.int .u8).C w A0 (rd_L2 xs i).length (rd_L2 xs i) := by
  obtain ⟨ad, c, e, _, hK, hc0⟩ := Kd.C_get h ([] : List Int) i h0 h1
  have hc : ∀ j u, c[j]? = some u → w.cell? (ad.add (i.toNat * 1 + j)) = some u := hc0
  obtain ⟨A0, c0, rfl, l0, g0⟩ := hK
  exact ⟨ad, A0, c0, e, by have hq := hc 0 _ rfl; rwa [Nat.mul_one, Nat.add_zero] at hq, l0, g0⟩

/-! #### struct type 27 -/
structure S27 where
  f0 : Int
  f1 : Int
  f2 : Int
  f3 : Int
  f4 : (List Int)
  f5 : Int
  f6 : Int
def z27 : S27 := ⟨(0 : Int), (0 : Int), (0 : Int), (0 : Int), ([] : List Int), (0 : Int), (0 : Int)⟩
def k27 : Kd S27 := Kd.iso (Kd.pair (Kd.int .i64) (Kd.pair (Kd.int .u8) (Kd.pair (Kd.int .u8) (Kd.pair (Kd.int .u8) (Kd.pair (Kd.slice 5 (Kd.int .u8)) (Kd.pair (Kd.int .u8) (Kd.int .u8))))))) (fun x : S27 => (x.f0, x.f1, x.f2, x.f3, x.f4, x.f5, x.f6))
theorem k27_open {w : World} {x : S27} {cs : List Value} (h : k27.K w x cs) : ∃ A4 c4, cs = [.int .i64 x.f0, .int .u8 x.f1, .int .u8 x.f2, .int .u8 x.f3, .slice A4 x.f4.length c4, .int .u8 x.f5, .int .u8 x.f6] ∧ x.f4.length ≤ c4 ∧ (Kd.int .u8).C w A4 x.f4.length x.f4 := by
  obtain ⟨_, _, rfl, rfl, ⟨_, _, rfl, rfl, ⟨_, _, rfl, rfl, ⟨_, _, rfl, rfl, ⟨_, _, rfl, ⟨A4, c4, rfl, l4, g4⟩, ⟨_, _, rfl, rfl, rfl⟩⟩⟩⟩⟩⟩ := h
  exact ⟨A4, c4, rfl, l4, g4⟩
theorem k27_openM {w : World} {base : Nat} {ok : Nat → Prop} {x : S27} {cs : List Value} (h : k27.M w base ok x cs) : ∃ v4, cs = [.int .i64 x.f0, .int .u8 x.f1, .int .u8 x.f2, .int .u8 x.f3, v4, .int .u8 x.f5, .int .u8 x.f6] ∧ (Kd.int .u8).R 5 w base ok v4 x.f4 := by
  obtain ⟨_, _, rfl, rfl, ⟨_, _, rfl, rfl, ⟨_, _, rfl, rfl, ⟨_, _, rfl, rfl, ⟨_, _, rfl, ⟨v4, rfl, g4⟩, ⟨_, _, rfl, rfl, rfl⟩⟩⟩⟩⟩⟩ := h
  exact ⟨v4, rfl, g4⟩
theorem k27_mk (w : World) (x : S27) {A4 : Option Addr} {c4 : Nat} (l4 : x.f4.length ≤ c4) (g4 : (Kd.int .u8).C w A4 x.f4.length x.f4) : k27.K w x [.int .i64 x.f0, .int .u8 x.f1, .int .u8 x.f2, .int .u8 x.f3, .slice A4 x.f4.length c4, .int .u8 x.f5, .int .u8 x.f6] := ⟨[.int .i64 x.f0], [.int .u8 x.f1, .int .u8 x.f2, .int .u8 x.f3, .slice A4 x.f4.length c4, .int .u8 x.f5, .int .u8 x.f6], rfl, rfl, ⟨[.int .u8 x.f1], [.int .u8 x.f2, .int .u8 x.f3, .slice A4 x.f4.length c4, .int .u8 x.f5, .int .u8 x.f6], rfl, rfl, ⟨[.int .u8 x.f2], [.int .u8 x.f3, .slice A4 x.f4.length c4, .int .u8 x.f5, .int .u8 x.f6], rfl, rfl, ⟨[.int .u8 x.f3], [.slice A4 x.f4.length c4, .int .u8 x.f5, .int .u8 x.f6], rfl, rfl, ⟨[.slice A4 x.f4.length c4], [.int .u8 x.f5, .int .u8 x.f6], rfl, ⟨A4, c4, rfl, l4, g4⟩, ⟨[.int .u8 x.f5], [.int .u8 x.f6], rfl, rfl, rfl⟩⟩⟩⟩⟩⟩
theorem k27_mkM (w : World) (base : Nat) (ok : Nat → Prop) (x : S27) {v4 : Value} (g4 : (Kd.int .u8).R 5 w base ok v4 x.f4) : k27.M w base ok x [.int .i64 x.f0, .int .u8 x.f1, .int .u8 x.f2, .int .u8 x.f3, v4, .int .u8 x.f5, .int .u8 x.f6] := ⟨[.int .i64 x.f0], [.int .u8 x.f1, .int .u8 x.f2, .int .u8 x.f3, v4, .int .u8 x.f5, .int .u8 x.f6], rfl, rfl, ⟨[.int .u8 x.f1], [.int .u8 x.f2, .int .u8 x.f3, v4, .int .u8 x.f5, .int .u8 x.f6], rfl, rfl, ⟨[.int .u8 x.f2], [.int .u8 x.f3, v4, .int .u8 x.f5, .int .u8 x.f6], rfl, rfl, ⟨[.int .u8 x.f3], [v4, .int .u8 x.f5, .int .u8 x.f6], rfl, rfl, ⟨[v4], [.int .u8 x.f5, .int .u8 x.f6], rfl, ⟨v4, rfl, g4⟩, ⟨[.int .u8 x.f5], [.int .u8 x.f6], rfl, rfl, rfl⟩⟩⟩⟩⟩⟩
theorem k27_openF {W : World} {ok : Nat → Prop} {x : S27} {cs : List Value} (h : Kd.FK k27 W ok x cs) : ∃ A4 c4, cs = [.int .i64 x.f0, .int .u8 x.f1, .int .u8 x.f2, .int .u8 x.f3, .slice A4 x.f4.length c4, .int .u8 x.f5, .int .u8 x.f6] ∧ x.f4.length ≤ c4 ∧ Kd.F (Kd.int .u8) W ok A4 x.f4.length x.f4 := by
  obtain ⟨A4, c4, rfl, l4, _⟩ := k27_open (Kd.FK_now h)
  exact ⟨A4, c4, rfl, l4, (fun W' hW => by obtain ⟨A4_, c4_, he, l4_, g4_⟩ := k27_open (h W' hW); injection (Option.some.inj (show some (Value.slice A4 x.f4.length c4) = some (Value.slice A4_ x.f4.length c4_) from congrArg (fun l => l[4]?) he)) with ha_ _ _; rw [ha_]; exact g4_)⟩
theorem k27_mkF (W : World) (ok : Nat → Prop) (x : S27) {A4 : Option Addr} {c4 : Nat} (l4 : x.f4.length ≤ c4) (g4 : Kd.F (Kd.int .u8) W ok A4 x.f4.length x.f4) : Kd.FK k27 W ok x [.int .i64 x.f0, .int .u8 x.f1, .int .u8 x.f2, .int .u8 x.f3, .slice A4 x.f4.length c4, .int .u8 x.f5, .int .u8 x.f6] := fun W2 hW => k27_mk W2 x l4 (g4 W2 hW)
def rd_T27 (xs : List S27) (i : Int) : S27 := xs.getD i.toNat z27
theorem at_T27 {w : World} {A : Option Addr} {n : Nat} {xs : List S27} (h : Kd.C k27 w A n xs) (i : Int) (h0 : 0 ≤ i) (h1 : i < n) : ∃ ad A4 c4, A = some ad ∧ w.cell? (ad.add (i.toNat * 7)) = some (.int .i64 (rd_T27 xs i).f0) ∧ w.cell? ⟨(ad.add (i.toNat * 7)).block, (ad.add (i.toNat * 7)).off + 1, none⟩ = some (.int .u8 (rd_T27 xs i).f1) ∧ w.cell? ⟨(ad.add (i.toNat * 7)).block, (ad.add (i.toNat * 7)).off + 2, none⟩ = some (.int .u8 (rd_T27 xs i).f2) ∧ w.cell? ⟨(ad.add (i.toNat * 7)).block, (ad.add (i.toNat * 7)).off + 3, none⟩ = some (.int .u8 (rd_T27 xs i).f3) ∧ w.cell? ⟨(ad.add (i.toNat * 7)).block, (ad.add (i.toNat * 7)).off + 4, none⟩ = some (.slice A4 (rd_T27 xs i).f4.length c4) ∧ w.cell? ⟨(ad.add (i.toNat * 7)).block, (ad.add (i.toNat * 7)).off + 5, none⟩ = some (.int .u8 (rd_T27 xs i).f5) ∧ w.cell? ⟨(ad.add (i.toNat * 7)).block, (ad.add (i.toNat * 7)).off + 6, none⟩ = some (.int .u8 (rd_T27 xs i).f6) ∧ (rd_T27 xs i).f4.length ≤ c4 ∧ (Kd.int .u8).C w A4 (rd_T27 xs i).f4.length (rd_T27 xs i).f4 := by
  obtain ⟨ad, c, e, _, hK, hc0⟩ := Kd.C_get h z27 i h0 h1
  have hc : ∀ j u, c[j]? = some u → w.cell? (ad.add (i.toNat * 7 + j)) = some u := hc0
  obtain ⟨A4, c4, rfl, l4, g4⟩ := k27_open hK
  exact ⟨ad, A4, c4, e, hc 0 _ rfl, by rw [← add_field _ _ 1 (by omega)]; exact hc 1 _ rfl, by rw [← add_field _ _ 2 (by omega)]; exact hc 2 _ rfl, by rw [← add_field _ _ 3 (by omega)]; exact hc 3 _ rfl, by rw [← add_field _ _ 4 (by omega)]; exact hc 4 _ rfl, by rw [← add_field _ _ 5 (by omega)]; exact hc 5 _ rfl, by rw [← add_field _ _ 6 (by omega)]; exact hc 6 _ rfl, l4, g4⟩

/-! #### struct type 30 -/
structure S30 where
  f0 : Int
  f1 : Int
  f2 : Int
  f3 : Int
  f4 : Int
  f5 : Int
  f6 : (List Int)
def z30 : S30 := ⟨(0 : Int), (0 : Int), (0 : Int), (0 : Int), (0 : Int), (0 : Int), ([] : List Int)⟩
def k30 : Kd S30 := Kd.iso (Kd.pair (Kd.int .i64) (Kd.pair (Kd.int .u8) (Kd.pair (Kd.int .u8) (Kd.pair (Kd.int .u8) (Kd.pair (Kd.int .u8) (Kd.pair (Kd.int .u8) (Kd.slice 5 (Kd.int .u8)))))))) (fun x : S30 => (x.f0, x.f1, x.f2, x.f3, x.f4, x.f5, x.f6))
theorem k30_open {w : World} {x : S30} {cs : List Value} (h : k30.K w x cs) : ∃ A6 c6, cs = [.int .i64 x.f0, .int .u8 x.f1, .int .u8 x.f2, .int .u8 x.f3, .int .u8 x.f4, .int .u8 x.f5, .slice A6 x.f6.length c6] ∧ x.f6.length ≤ c6 ∧ (Kd.int .u8).C w A6 x.f6.length x.f6 := by
  obtain ⟨_, _, rfl, rfl, ⟨_, _, rfl, rfl, ⟨_, _, rfl, rfl, ⟨_, _, rfl, rfl, ⟨_, _, rfl, rfl, ⟨_, _, rfl, rfl, ⟨A6, c6, rfl, l6, g6⟩⟩⟩⟩⟩⟩⟩ := h
  exact ⟨A6, c6, rfl, l6, g6⟩
theorem k30_openM {w : World} {base : Nat} {ok : Nat → Prop} {x : S30} {cs : List Value} (h : k30.M w base ok x cs) : ∃ v6, cs = [.int .i64 x.f0, .int .u8 x.f1, .int .u8 x.f2, .int .u8 x.f3, .int .u8 x.f4, .int .u8 x.f5, v6] ∧ (Kd.int .u8).R 5 w base ok v6 x.f6 := by
  obtain ⟨_, _, rfl, rfl, ⟨_, _, rfl, rfl, ⟨_, _, rfl, rfl, ⟨_, _, rfl, rfl, ⟨_, _, rfl, rfl, ⟨_, _, rfl, rfl, ⟨v6, rfl, g6⟩⟩⟩⟩⟩⟩⟩ := h
  exact ⟨v6, rfl, g6⟩
theorem k30_mk (w : World) (x : S30) {A6 : Option Addr} {c6 : Nat} (l6 : x.f6.length ≤ c6) (g6 : (Kd.int .u8).C w A6 x.f6.length x.f6) : k30.K w x [.int .i64 x.f0, .int .u8 x.f1, .int .u8 x.f2, .int .u8 x.f3, .int .u8 x.f4, .int .u8 x.f5, .slice A6 x.f6.length c6] := ⟨[.int .i64 x.f0], [.int .u8 x.f1, .int .u8 x.f2, .int .u8 x.f3, .int .u8 x.f4, .int .u8 x.f5, .slice A6 x.f6.length c6], rfl, rfl, ⟨[.int .u8 x.f1], [.int .u8 x.f2, .int .u8 x.f3, .int .u8 x.f4, .int .u8 x.f5, .slice A6 x.f6.length c6], rfl, rfl, ⟨[.int .u8 x.f2], [.int .u8 x.f3, .int .u8 x.f4, .int .u8 x.f5, .slice A6 x.f6.length c6], rfl, rfl, ⟨[.int .u8 x.f3], [.int .u8 x.f4, .int .u8 x.f5, .slice A6 x.f6.length c6], rfl, rfl, ⟨[.int .u8 x.f4], [.int .u8 x.f5, .slice A6 x.f6.length c6], rfl, rfl, ⟨[.int .u8 x.f5], [.slice A6 x.f6.length c6], rfl, rfl, ⟨A6, c6, rfl, l6, g6⟩⟩⟩⟩⟩⟩⟩
theorem k30_mkM (w : World) (base : Nat) (ok : Nat → Prop) (x : S30) {v6 : Value} (g6 : (Kd.int .u8).R 5 w base ok v6 x.f6) : k30.M w base ok x [.int .i64 x.f0, .int .u8 x.f1, .int .u8 x.f2, .int .u8 x.f3, .int .u8 x.f4, .int .u8 x.f5, v6] := ⟨[.int .i64 x.f0], [.int .u8 x.f1, .int .u8 x.f2, .int .u8 x.f3, .int .u8 x.f4, .int .u8 x.f5, v6], rfl, rfl, ⟨[.int .u8 x.f1], [.int .u8 x.f2, .int .u8 x.f3, .int .u8 x.f4, .int .u8 x.f5, v6], rfl, rfl, ⟨[.int .u8 x.f2], [.int .u8 x.f3, .int .u8 x.f4, .int .u8 x.f5, v6], rfl, rfl, ⟨[.int .u8 x.f3], [.int .u8 x.f4, .int .u8 x.f5, v6], rfl, rfl, ⟨[.int .u8 x.f4], [.int .u8 x.f5, v6], rfl, rfl, ⟨[.int .u8 x.f5], [v6], rfl, rfl, ⟨v6, rfl, g6⟩⟩⟩⟩⟩⟩⟩
theorem k30_openF {W : World} {ok : Nat → Prop} {x : S30} {cs : List Value} (h : Kd.FK k30 W ok x cs) : ∃ A6 c6, cs = [.int .i64 x.f0, .int .u8 x.f1, .int .u8 x.f2, .int .u8 x.f3, .int .u8 x.f4, .int .u8 x.f5, .slice A6 x.f6.length c6] ∧ x.f6.length ≤ c6 ∧ Kd.F (Kd.int .u8) W ok A6 x.f6.length x.f6 := by
  obtain ⟨A6, c6, rfl, l6, _⟩ := k30_open (Kd.FK_now h)
  exact ⟨A6, c6, rfl, l6, (fun W' hW => by obtain ⟨A6_, c6_, he, l6_, g6_⟩ := k30_open (h W' hW); injection (Option.some.inj (show some (Value.slice A6 x.f6.length c6) = some (Value.slice A6_ x.f6.length c6_) from congrArg (fun l => l[6]?) he)) with ha_ _ _; rw [ha_]; exact g6_)⟩
theorem k30_mkF (W : World) (ok : Nat → Prop) (x : S30) {A6 : Option Addr} {c6 : Nat} (l6 : x.f6.length ≤ c6) (g6 : Kd.F (Kd.int .u8) W ok A6 x.f6.length x.f6) : Kd.FK k30 W ok x [.int .i64 x.f0, .int .u8 x.f1, .int .u8 x.f2, .int .u8 x.f3, .int .u8 x.f4, .int .u8 x.f5, .slice A6 x.f6.length c6] := fun W2 hW => k30_mk W2 x l6 (g6 W2 hW)
def rd_T30 (xs : List S30) (i : Int) : S30 := xs.getD i.toNat z30
theorem at_T30 {w : World} {A : Option Addr} {n : Nat} {xs : List S30} (h : Kd.C k30 w A n xs) (i : Int) (h0 : 0 ≤ i) (h1 : i < n) : ∃ ad A6 c6, A = some ad ∧ w.cell? (ad.add (i.toNat * 7)) = some (.int .i64 (rd_T30 xs i).f0) ∧ w.cell? ⟨(ad.add (i.toNat * 7)).block, (ad.add (i.toNat * 7)).off + 1, none⟩ = some (.int .u8 (rd_T30 xs i).f1) ∧ w.cell? ⟨(ad.add (i.toNat * 7)).block, (ad.add (i.toNat * 7)).off + 2, none⟩ = some (.int .u8 (rd_T30 xs i).f2) ∧ w.cell? ⟨(ad.add (i.toNat * 7)).block, (ad.add (i.toNat * 7)).off + 3, none⟩ = some (.int .u8 (rd_T30 xs i).f3) ∧ w.cell? ⟨(ad.add (i.toNat * 7)).block, (ad.add (i.toNat * 7)).off + 4, none⟩ = some (.int .u8 (rd_T30 xs i).f4) ∧ w.cell? ⟨(ad.add (i.toNat * 7)).block, (ad.add (i.toNat * 7)).off + 5, none⟩ = some (.int .u8 (rd_T30 xs i).f5) ∧ w.cell? ⟨(ad.add (i.toNat * 7)).block, (ad.add (i.toNat * 7)).off + 6, none⟩ = some (.slice A6 (rd_T30 xs i).f6.length c6) ∧ (rd_T30 xs i).f6.length ≤ c6 ∧ (Kd.int .u8).C w A6 (rd_T30 xs i).f6.length (rd_T30 xs i).f6 := by
  obtain ⟨ad, c, e, _, hK, hc0⟩ := Kd.C_get h z30 i h0 h1
  have hc : ∀ j u, c[j]? = some u → w.cell? (ad.add (i.toNat * 7 + j)) = some u := hc0
  obtain ⟨A6, c6, rfl, l6, g6⟩ := k30_open hK
  exact ⟨ad, A6, c6, e, hc 0 _ rfl, by rw [← add_field _ _ 1 (by omega)]; exact hc 1 _ rfl, by rw [← add_field _ _ 2 (by omega)]; exact hc 2 _ rfl, by rw [← add_field _ _ 3 (by omega)]; exact hc 3 _ rfl, by rw [← add_field _ _ 4 (by omega)]; exact hc 4 _ rfl, by rw [← add_field _ _ 5 (by omega)]; exact hc 5 _ rfl, by rw [← add_field _ _ 6 (by omega)]; exact hc 6 _ rfl, l6, g6⟩

/-! #### struct type 32 -/
structure S32 where
  f0 : Int
  f1 : Int
def z32 : S32 := ⟨(0 : Int), (0 : Int)⟩
def k32 : Kd S32 := Kd.iso (Kd.pair (Kd.int .u8) (Kd.int .u8)) (fun x : S32 => (x.f0, x.f1))
theorem k32_open {w : World} {x : S32} {cs : List Value} (h : k32.K w x cs) : cs = [.int .u8 x.f0, .int .u8 x.f1] := by
  obtain ⟨_, _, rfl, rfl, rfl⟩ := h
  exact rfl
theorem k32_openM {w : World} {base : Nat} {ok : Nat → Prop} {x : S32} {cs : List Value} (h : k32.M w base ok x cs) : cs = [.int .u8 x.f0, .int .u8 x.f1] := by
  obtain ⟨_, _, rfl, rfl, rfl⟩ := h
  exact rfl
theorem k32_mk (w : World) (x : S32)  : k32.K w x [.int .u8 x.f0, .int .u8 x.f1] := ⟨[.int .u8 x.f0], [.int .u8 x.f1], rfl, rfl, rfl⟩
theorem k32_mkM (w : World) (base : Nat) (ok : Nat → Prop) (x : S32)  : k32.M w base ok x [.int .u8 x.f0, .int .u8 x.f1] := ⟨[.int .u8 x.f0], [.int .u8 x.f1], rfl, rfl, rfl⟩
theorem k32_mkF (W : World) (ok : Nat → Prop) (x : S32) : Kd.FK k32 W ok x [.int .u8 x.f0, .int .u8 x.f1] := fun W2 _ => k32_mk W2 x
def rd_T32 (xs : List S32) (i : Int) : S32 := xs.getD i.toNat z32
theorem at_T32 {w : World} {A : Option Addr} {n : Nat} {xs : List S32} (h : Kd.C k32 w A n xs) (i : Int) (h0 : 0 ≤ i) (h1 : i < n) : ∃ ad , A = some ad ∧ w.cell? (ad.add (i.toNat * 2)) = some (.int .u8 (rd_T32 xs i).f0) ∧ w.cell? ⟨(ad.add (i.toNat * 2)).block, (ad.add (i.toNat * 2)).off + 1, none⟩ = some (.int .u8 (rd_T32 xs i).f1) := by
  obtain ⟨ad, c, e, _, hK, hc0⟩ := Kd.C_get h z32 i h0 h1
  have hc : ∀ j u, c[j]? = some u → w.cell? (ad.add (i.toNat * 2 + j)) = some u := hc0
  obtain rfl := k32_open hK
  exact ⟨ad, e, hc 0 _ rfl, by rw [← add_field _ _ 1 (by omega)]; exact hc 1 _ rfl⟩

/-! #### struct type 39 -/
structure S39 where
  f0 : Int
  f1 : Int
def z39 : S39 := ⟨(0 : Int), (0 : Int)⟩
def k39 : Kd S39 := Kd.iso (Kd.pair (Kd.int .u8) (Kd.int .u8)) (fun x : S39 => (x.f0, x.f1))
theorem k39_open {w : World} {x : S39} {cs : List Value} (h : k39.K w x cs) : cs = [.int .u8 x.f0, .int .u8 x.f1] := by
  obtain ⟨_, _, rfl, rfl, rfl⟩ := h
  exact rfl
theorem k39_openM {w : World} {base : Nat} {ok : Nat → Prop} {x : S39} {cs : List Value} (h : k39.M w base ok x cs) : cs = [.int .u8 x.f0, .int .u8 x.f1] := by
  obtain ⟨_, _, rfl, rfl, rfl⟩ := h
  exact rfl
theorem k39_mk (w : World) (x : S39)  : k39.K w x [.int .u8 x.f0, .int .u8 x.f1] := ⟨[.int .u8 x.f0], [.int .u8 x.f1], rfl, rfl, rfl⟩
theorem k39_mkM (w : World) (base : Nat) (ok : Nat → Prop) (x : S39)  : k39.M w base ok x [.int .u8 x.f0, .int .u8 x.f1] := ⟨[.int .u8 x.f0], [.int .u8 x.f1], rfl, rfl, rfl⟩
theorem k39_mkF (W : World) (ok : Nat → Prop) (x : S39) : Kd.FK k39 W ok x [.int .u8 x.f0, .int .u8 x.f1] := fun W2 _ => k39_mk W2 x
def rd_T39 (xs : List S39) (i : Int) : S39 := xs.getD i.toNat z39
theorem at_T39 {w : World} {A : Option Addr} {n : Nat} {xs : List S39} (h : Kd.C k39 w A n xs) (i : Int) (h0 : 0 ≤ i) (h1 : i < n) : ∃ ad , A = some ad ∧ w.cell? (ad.add (i.toNat * 2)) = some (.int .u8 (rd_T39 xs i).f0) ∧ w.cell? ⟨(ad.add (i.toNat * 2)).block, (ad.add (i.toNat * 2)).off + 1, none⟩ = some (.int .u8 (rd_T39 xs i).f1) := by
  obtain ⟨ad, c, e, _, hK, hc0⟩ := Kd.C_get h z39 i h0 h1
  have hc : ∀ j u, c[j]? = some u → w.cell? (ad.add (i.toNat * 2 + j)) = some u := hc0
  obtain rfl := k39_open hK
  exact ⟨ad, e, hc 0 _ rfl, by rw [← add_field _ _ 1 (by omega)]; exact hc 1 _ rfl⟩

end Go.Proofs.Ytnjbobboookfmaa.PB
