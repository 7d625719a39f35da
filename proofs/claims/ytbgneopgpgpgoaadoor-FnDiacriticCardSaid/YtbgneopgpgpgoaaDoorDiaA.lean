/- FnDiacritic: kittyAwake by hand: Options.String, impl.KittyString and kittyAwake itself over DiaK and DiaO. -/
import Derived.Test.YtbgneopgpgpgoaaDoorDiaK
import Derived.Test.YtbgneopgpgpgoaaDoorDiaO
namespace Go.Proofs.YtbgneopgpgpgoaaDoor.Dia
set_option linter.unusedVariables false
set_option linter.unusedSimpArgs false
open Go Go.RowKit Go.Proofs.YtbgneopgpgpgoaaDoorW.PrintWords Go.Proofs.YtbgneopgpgpgoaaDoorW.PrintLast Go.Proofs.YtbgneopgpgpgoaaDoorW.PrintMore Go.Proofs.YtbgneopgpgpgoaaDoor.Or Go.Proofs.YtbgneopgpgpgoaaDoor.PJ

def told : ByteArray := ⟨#[105, 61, 55, 44, 97, 61, 112]⟩
theorem joined : kitty_zzJoin.f 5 [i7, ap] ⟨#[44]⟩ = some told := by decide +kernel

set_option maxHeartbeats 8000000 in
set_option maxRecDepth 100000 in
theorem str (w : World) (hLD : Laid w) : Calls Tryd.prog 9 #[.agg #[.int .u8 112, .int .u8 0, .int .u8 0, .int .i64 7, .int .i64 0, .int .i64 0, .int .i64 0, .int .i64 0, .int .i64 0, .int .u8 0, .int .u8 0, .string ⟨#[]⟩, .int .i64 0, .int .i64 0, .bool false, .nilFunc, .int .i64 0, .int .i64 0, .int .i64 0, .int .i64 0, .int .i64 0, .int .i64 0, .int .i64 0, .int .i64 0, .int .i64 0, .bool false, .bool false, .int .i64 0, .int .i64 0, .int .u8 0, .bool false]] w fun e w' => e = .returned (.string told) ∧ Below w.heap.size w w' := by
  go_enter Tryd.func9, Tryd.ntmps9
  go_wp2_with (first | ((with_reducible refine gate_dst (N := 1) rfl ?_); refine box_event ?hg (N := 1) ?hd (cs := #[.int .u8 112, .int .u8 0, .int .u8 0, .int .i64 7, .int .i64 0, .int .i64 0, .int .i64 0, .int .i64 0, .int .i64 0, .int .u8 0, .int .u8 0, .string ⟨#[]⟩, .int .i64 0, .int .i64 0, .bool false, .nilFunc, .int .i64 0, .int .i64 0, .int .i64 0, .int .i64 0, .int .i64 0, .int .i64 0, .int .i64 0, .int .i64 0, .int .i64 0, .bool false, .bool false, .int .i64 0, .int .i64 0, .int .u8 0, .bool false]) (t := 31) ?hr ?_; (case hd => rfl); (case hg => rfl); (case hr => first | (go_simp; done) | (go_simp; rfl)); intro g1 hg1 w2 hbox1 hb1; have BK1 := Aside0.mk hbox1; have HB1 := Aside0.mk hb1; have GE1 := Aside0.mk (Nat.le_of_eq hg1.symm); clear hbox1 hb1 hg1) | fail)
  refine (options w w2 g1 hLD HB1.out GE1.out BK1.out).mono ?_
  rintro e w3 ⟨v3, rfl, hr3, hb3⟩
  obtain ⟨A3, c3, rfl⟩ := Kd.R_slice hr3
  have hq := Kd.R_reads' hr3
  go_wp2_with fail
  refine (kitty_zzJoin.calls 5 A3 c3 [i7, ap] ⟨#[44]⟩ told w3 hq.2.2 hq.2.1 joined).mono ?_
  rintro e w4 ⟨rfl, ⟨nd, rfl⟩⟩
  go_wp2
  go_ret
  exact ⟨rfl, pw_below_drewN hb3 _⟩

set_option maxHeartbeats 8000000 in
set_option maxRecDepth 100000 in
theorem kittyString (w : World) (hLD : Laid w) : Calls Tryd.prog 6 #[.agg #[.int .u8 112, .int .u8 0, .int .u8 0, .int .i64 7, .int .i64 0, .int .i64 0, .int .i64 0, .int .i64 0, .int .i64 0, .int .u8 0, .int .u8 0, .string ⟨#[]⟩, .int .i64 0, .int .i64 0, .bool false, .int .i64 0, .int .i64 0, .int .i64 0, .int .i64 0, .int .i64 0, .int .i64 0, .int .i64 0, .int .i64 0, .int .i64 0, .bool false, .bool false, .int .i64 0, .int .i64 0, .int .u8 0, .bool false]] w fun e w' => e = .returned (.string told) ∧ Below w.heap.size w w' := by
  go_enter Tryd.func6, Tryd.ntmps6
  go_wp2_with (first | ((with_reducible refine gate_dst (N := 1) rfl ?_); refine box_event ?hg (N := 1) ?hd (cs := #[.int .u8 112, .int .u8 0, .int .u8 0, .int .i64 7, .int .i64 0, .int .i64 0, .int .i64 0, .int .i64 0, .int .i64 0, .int .u8 0, .int .u8 0, .string ⟨#[]⟩, .int .i64 0, .int .i64 0, .bool false, .int .i64 0, .int .i64 0, .int .i64 0, .int .i64 0, .int .i64 0, .int .i64 0, .int .i64 0, .int .i64 0, .int .i64 0, .bool false, .bool false, .int .i64 0, .int .i64 0, .int .u8 0, .bool false]) (t := 27) ?hr ?_; (case hd => rfl); (case hg => rfl); (case hr => first | (go_simp; done) | (go_simp; rfl)); intro g1 hg1 w2 hbox1 hb1; have BK1 := Aside0.mk hbox1; have HB1 := Aside0.mk hb1; clear hbox1 hb1 hg1) | ((with_reducible refine gate_dst (N := 3) rfl ?_); refine wpList_load_row rfl 27 (.tmp 1) rfl g1 rfl 27 #[.int .u8 112, .int .u8 0, .int .u8 0, .int .i64 7, .int .i64 0, .int .i64 0, .int .i64 0, .int .i64 0, .int .i64 0, .int .u8 0, .int .u8 0, .string ⟨#[]⟩, .int .i64 0, .int .i64 0, .bool false, .int .i64 0, .int .i64 0, .int .i64 0, .int .i64 0, .int .i64 0, .int .i64 0, .int .i64 0, .int .i64 0, .int .i64 0, .bool false, .bool false, .int .i64 0, .int .i64 0, .int .u8 0, .bool false] (0, 0) _ BK1.out Tryd.underlying27 rfl (by kernel_rfl) ?_) | fail)
  refine (kittyOf w2).mono ?_
  rintro e w3 ⟨rfl, hb3⟩
  go_wp2_with fail
  refine (str w3 ((hLD.below HB1.out).below hb3)).mono ?_
  rintro e w4 ⟨rfl, hb4⟩
  go_wp2
  go_ret
  exact ⟨rfl, below_step (below_step HB1.out hb3) hb4⟩

set_option maxHeartbeats 8000000 in
set_option maxRecDepth 100000 in
theorem kittyAwake (w : World) (hLD : Laid w) : Calls Tryd.prog 4 #[] w fun e w' => e = .returned (.bool true) ∧ Below w.heap.size w w' := by
  have heq : (told.toList == [105, 61, 55, 44, 97, 61, 112]) = true := by decide +kernel
  go_enter Tryd.func4, Tryd.ntmps4
  go_wp2_with (first | ((with_reducible refine gate_dst (N := 1) rfl ?_); refine wplb_ rfl 27 _ #[.int .u8 112, .int .u8 0, .int .u8 0, .int .i64 7, .int .i64 0, .int .i64 0, .int .i64 0, .int .i64 0, .int .i64 0, .int .u8 0, .int .u8 0, .string ⟨#[]⟩, .int .i64 0, .int .i64 0, .bool false, .int .i64 0, .int .i64 0, .int .i64 0, .int .i64 0, .int .i64 0, .int .i64 0, .int .i64 0, .int .i64 0, .int .i64 0, .bool false, .bool false, .int .i64 0, .int .i64 0, .int .u8 0, .bool false] rfl (by kernel_rfl) ?_) | fail)
  refine (kittyString w hLD).mono ?_
  rintro e w2 ⟨rfl, hb2⟩
  go_wp2
  go_ret
  exact ⟨rfl, hb2⟩

end Go.Proofs.YtbgneopgpgpgoaaDoor.Dia
namespace Go.Proofs.YtbgneopgpgpgoaaDoor.Or
open Go Go.RowKit
def laws_kittyAwake.f : Option Bool := some true
theorem laws_kittyAwake.calls (r : Bool) (w : World) (hLD : Laid w) (h : laws_kittyAwake.f = some r) :
    Calls Tryd.prog 4 #[] w fun e w' => e = .returned (.bool r) ∧ Below w.heap.size w w' := by
  obtain rfl := Option.some.inj h
  exact Go.Proofs.YtbgneopgpgpgoaaDoor.Dia.kittyAwake w hLD
end Go.Proofs.YtbgneopgpgpgoaaDoor.Or
