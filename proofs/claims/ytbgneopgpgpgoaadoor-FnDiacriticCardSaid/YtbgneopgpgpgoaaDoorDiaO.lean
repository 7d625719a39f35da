/- FnDiacritic: kittyAwake by hand: the options {ID: 7, Action: 'p'} are written as "i=7,a=p". -/
import Derived.Test.YtbgneopgpgpgoaaDoorPJx1
import Derived.Test.YtbgneopgpgpgoaaDoorOr
import Derived.Test.YtbgneopgpgpgoaaDoorExt2
namespace Go.Proofs.YtbgneopgpgpgoaaDoor.Dia
set_option linter.unusedVariables false
set_option linter.unusedSimpArgs false
open Go Go.RowKit Go.Proofs.YtbgneopgpgpgoaaDoorW.PrintWords Go.Proofs.YtbgneopgpgpgoaaDoorW.PrintLast Go.Proofs.YtbgneopgpgpgoaaDoorW.PrintMore Go.Proofs.YtbgneopgpgpgoaaDoor.Or Go.Proofs.YtbgneopgpgpgoaaDoor.PJ

theorem info9 : (Tryd.prog.info? 9).map (fun i => (i.zero, i.size, i.bytes)) = some (some (.string ⟨#[]⟩), 1, 16) := by kernel_rfl
def i7 : ByteArray := ⟨#[105, 61, 55]⟩
def ap : ByteArray := ⟨#[97, 61, 112]⟩
theorem itoa7 : strconv_Itoa.f 7 = some ⟨#[55]⟩ := by
  unfold strconv_Itoa.f
  rw [if_pos (by omega)]
  have e : Lib.itoa 7 = [55] := by decide +kernel
  rw [e]

set_option maxHeartbeats 40000000 in
set_option maxRecDepth 100000 in
theorem options (w0 w : World) (g : Nat) (hLD : Laid w0) (hB : Below w0.heap.size w0 w) (hg : w0.heap.size ≤ g) (hb : w.heap[g]? = some (.cells #[.int .u8 112, .int .u8 0, .int .u8 0, .int .i64 7, .int .i64 0, .int .i64 0, .int .i64 0, .int .i64 0, .int .i64 0, .int .u8 0, .int .u8 0, .string ⟨#[]⟩, .int .i64 0, .int .i64 0, .bool false, .nilFunc, .int .i64 0, .int .i64 0, .int .i64 0, .int .i64 0, .int .i64 0, .int .i64 0, .int .i64 0, .int .i64 0, .int .i64 0, .bool false, .bool false, .int .i64 0, .int .i64 0, .int .u8 0, .bool false] 31 (0, 0))) :
    Calls Tryd.prog 11 #[.pointer (some ⟨g, 0, none⟩)] w fun e w' => ∃ v0_, e = .returned v0_ ∧ Kd.R Kd.string 9 w' w.heap.size (fun _ => True) v0_ [i7, ap] ∧ Below w0.heap.size w0 w' := by
  have HLD := Aside0.mk hLD
  have HB0 := Aside0.mk hB
  have BK0 := Aside0.mk hb
  have hgw := blk_lt hb
  have hgs : w0.heap.size ≤ w.heap.size := hB.size
  have HGW := Aside0.mk hgw
  clear hLD hB hb hgw
  go_enter Tryd.func11, Tryd.ntmps11
  go_wp2_with (first | ((with_reducible refine gate_dst (N := 5) rfl ?_); refine Kd.R_lit Kd.string _ 9 ?hg (N := 5) ?hd (xs := ([] : List ByteArray)) (inner := []) (ok := fun _ => True) (okp := fun _ => True) ?hr ?hp (fun _ hk => hk) trivial (Below.refl _ _) (Nat.le_refl _) (by simp) ?_; (case hd => rfl); (case hg => rfl); (case hr => first | (go_simp; done) | (go_simp; rfl)); (case hp => exact (Reps.none _ _)); intro v3 w3 ho hb hg_ hnew_; clear hg_ hnew_; obtain ⟨A3, c3, e3⟩ := Kd.R_slice ho; subst e3; have HO3 := Aside0.mk ho; have BK3 := Aside0.mk ((hb.block g HGW.out).trans BK0.out); have HB3 := Aside0.mk (below_step HB0.out hb); have HS3 := Aside0.mk hb.size; clear ho hb; have hca_0 : w3.cell? ⟨g, 0, none⟩ = some (.int .u8 112) := (blk_cell BK3.out 0).trans rfl; have hca_1 : w3.cell? ⟨g, 1, none⟩ = some (.int .u8 0) := (blk_cell BK3.out 1).trans rfl; have hca_2 : w3.cell? ⟨g, 2, none⟩ = some (.int .u8 0) := (blk_cell BK3.out 2).trans rfl; have hca_3 : w3.cell? ⟨g, 3, none⟩ = some (.int .i64 7) := (blk_cell BK3.out 3).trans rfl; have hca_4 : w3.cell? ⟨g, 4, none⟩ = some (.int .i64 0) := (blk_cell BK3.out 4).trans rfl; have hca_5 : w3.cell? ⟨g, 5, none⟩ = some (.int .i64 0) := (blk_cell BK3.out 5).trans rfl; have hca_6 : w3.cell? ⟨g, 6, none⟩ = some (.int .i64 0) := (blk_cell BK3.out 6).trans rfl; have hca_7 : w3.cell? ⟨g, 7, none⟩ = some (.int .i64 0) := (blk_cell BK3.out 7).trans rfl; have hca_8 : w3.cell? ⟨g, 8, none⟩ = some (.int .i64 0) := (blk_cell BK3.out 8).trans rfl; have hca_9 : w3.cell? ⟨g, 9, none⟩ = some (.int .u8 0) := (blk_cell BK3.out 9).trans rfl; have hca_10 : w3.cell? ⟨g, 10, none⟩ = some (.int .u8 0) := (blk_cell BK3.out 10).trans rfl; have hca_11 : w3.cell? ⟨g, 11, none⟩ = some (.string ⟨#[]⟩) := (blk_cell BK3.out 11).trans rfl; have hca_12 : w3.cell? ⟨g, 12, none⟩ = some (.int .i64 0) := (blk_cell BK3.out 12).trans rfl; have hca_13 : w3.cell? ⟨g, 13, none⟩ = some (.int .i64 0) := (blk_cell BK3.out 13).trans rfl; have hca_16 : w3.cell? ⟨g, 16, none⟩ = some (.int .i64 0) := (blk_cell BK3.out 16).trans rfl; have hca_17 : w3.cell? ⟨g, 17, none⟩ = some (.int .i64 0) := (blk_cell BK3.out 17).trans rfl; have hca_18 : w3.cell? ⟨g, 18, none⟩ = some (.int .i64 0) := (blk_cell BK3.out 18).trans rfl; have hca_19 : w3.cell? ⟨g, 19, none⟩ = some (.int .i64 0) := (blk_cell BK3.out 19).trans rfl; have hca_20 : w3.cell? ⟨g, 20, none⟩ = some (.int .i64 0) := (blk_cell BK3.out 20).trans rfl; have hca_21 : w3.cell? ⟨g, 21, none⟩ = some (.int .i64 0) := (blk_cell BK3.out 21).trans rfl; have hca_22 : w3.cell? ⟨g, 22, none⟩ = some (.int .i64 0) := (blk_cell BK3.out 22).trans rfl; have hca_23 : w3.cell? ⟨g, 23, none⟩ = some (.int .i64 0) := (blk_cell BK3.out 23).trans rfl; have hca_24 : w3.cell? ⟨g, 24, none⟩ = some (.int .i64 0) := (blk_cell BK3.out 24).trans rfl; have hca_25 : w3.cell? ⟨g, 25, none⟩ = some (.bool false) := (blk_cell BK3.out 25).trans rfl; have hca_26 : w3.cell? ⟨g, 26, none⟩ = some (.bool false) := (blk_cell BK3.out 26).trans rfl; have hca_27 : w3.cell? ⟨g, 27, none⟩ = some (.int .i64 0) := (blk_cell BK3.out 27).trans rfl; have hca_28 : w3.cell? ⟨g, 28, none⟩ = some (.int .i64 0) := (blk_cell BK3.out 28).trans rfl; have hca_29 : w3.cell? ⟨g, 29, none⟩ = some (.int .u8 0) := (blk_cell BK3.out 29).trans rfl; have hca_30 : w3.cell? ⟨g, 30, none⟩ = some (.bool false) := (blk_cell BK3.out 30).trans rfl; have hfa_6 := blk_frozen BK3.out 6; have hfa_10 := blk_frozen BK3.out 10; have hfa_29 := blk_frozen BK3.out 29) | fail)
  have BK4 := Aside0.mk (blk_set BK3.out 6 (.int .i64 32 : Value))
  have HO4 := Aside0.mk (Kd.R_set HO3.out BK3.out (by decide) 6 (.int .i64 32 : Value))
  have HB4 := Aside0.mk (show Below w0.heap.size w0 (w3.setCell ⟨g, 6, none⟩ (.int .i64 32)) from HB3.out.setCell hg _)
  have HS4 : Aside0 (w.heap.size ≤ (w3.setCell ⟨g, 6, none⟩ (.int .i64 32)).heap.size) := ⟨by have := HS3.out; simpa [World.setCell] using this⟩
  replace BK4 : Aside0 ((w3.setCell ⟨g, 6, none⟩ (.int .i64 32)).heap[g]? = some (.cells #[.int .u8 112, .int .u8 0, .int .u8 0, .int .i64 7, .int .i64 0, .int .i64 0, .int .i64 32, .int .i64 0, .int .i64 0, .int .u8 0, .int .u8 0, .string ⟨#[]⟩, .int .i64 0, .int .i64 0, .bool false, .nilFunc, .int .i64 0, .int .i64 0, .int .i64 0, .int .i64 0, .int .i64 0, .int .i64 0, .int .i64 0, .int .i64 0, .int .i64 0, .bool false, .bool false, .int .i64 0, .int .i64 0, .int .u8 0, .bool false] 31 (0, 0))) := ⟨BK4.out.trans rfl⟩
  clear hca_0 hca_1 hca_2 hca_3 hca_4 hca_5 hca_6 hca_7 hca_8 hca_9 hca_10 hca_11 hca_12 hca_13 hca_16 hca_17 hca_18 hca_19 hca_20 hca_21 hca_22 hca_23 hca_24 hca_25 hca_26 hca_27 hca_28 hca_29 hca_30 hfa_6 hfa_10 hfa_29
  clear BK3 HO3 HB3 HS3
  generalize w3.setCell ⟨g, 6, none⟩ (.int .i64 32) = w4 at BK4 HO4 HB4 HS4 ⊢
  have hcb_0 : w4.cell? ⟨g, 0, none⟩ = some (.int .u8 112) := (blk_cell BK4.out 0).trans rfl
  have hcb_1 : w4.cell? ⟨g, 1, none⟩ = some (.int .u8 0) := (blk_cell BK4.out 1).trans rfl
  have hcb_2 : w4.cell? ⟨g, 2, none⟩ = some (.int .u8 0) := (blk_cell BK4.out 2).trans rfl
  have hcb_3 : w4.cell? ⟨g, 3, none⟩ = some (.int .i64 7) := (blk_cell BK4.out 3).trans rfl
  have hcb_4 : w4.cell? ⟨g, 4, none⟩ = some (.int .i64 0) := (blk_cell BK4.out 4).trans rfl
  have hcb_5 : w4.cell? ⟨g, 5, none⟩ = some (.int .i64 0) := (blk_cell BK4.out 5).trans rfl
  have hcb_6 : w4.cell? ⟨g, 6, none⟩ = some (.int .i64 32) := (blk_cell BK4.out 6).trans rfl
  have hcb_7 : w4.cell? ⟨g, 7, none⟩ = some (.int .i64 0) := (blk_cell BK4.out 7).trans rfl
  have hcb_8 : w4.cell? ⟨g, 8, none⟩ = some (.int .i64 0) := (blk_cell BK4.out 8).trans rfl
  have hcb_9 : w4.cell? ⟨g, 9, none⟩ = some (.int .u8 0) := (blk_cell BK4.out 9).trans rfl
  have hcb_10 : w4.cell? ⟨g, 10, none⟩ = some (.int .u8 0) := (blk_cell BK4.out 10).trans rfl
  have hcb_11 : w4.cell? ⟨g, 11, none⟩ = some (.string ⟨#[]⟩) := (blk_cell BK4.out 11).trans rfl
  have hcb_12 : w4.cell? ⟨g, 12, none⟩ = some (.int .i64 0) := (blk_cell BK4.out 12).trans rfl
  have hcb_13 : w4.cell? ⟨g, 13, none⟩ = some (.int .i64 0) := (blk_cell BK4.out 13).trans rfl
  have hcb_16 : w4.cell? ⟨g, 16, none⟩ = some (.int .i64 0) := (blk_cell BK4.out 16).trans rfl
  have hcb_17 : w4.cell? ⟨g, 17, none⟩ = some (.int .i64 0) := (blk_cell BK4.out 17).trans rfl
  have hcb_18 : w4.cell? ⟨g, 18, none⟩ = some (.int .i64 0) := (blk_cell BK4.out 18).trans rfl
  have hcb_19 : w4.cell? ⟨g, 19, none⟩ = some (.int .i64 0) := (blk_cell BK4.out 19).trans rfl
  have hcb_20 : w4.cell? ⟨g, 20, none⟩ = some (.int .i64 0) := (blk_cell BK4.out 20).trans rfl
  have hcb_21 : w4.cell? ⟨g, 21, none⟩ = some (.int .i64 0) := (blk_cell BK4.out 21).trans rfl
  have hcb_22 : w4.cell? ⟨g, 22, none⟩ = some (.int .i64 0) := (blk_cell BK4.out 22).trans rfl
  have hcb_23 : w4.cell? ⟨g, 23, none⟩ = some (.int .i64 0) := (blk_cell BK4.out 23).trans rfl
  have hcb_24 : w4.cell? ⟨g, 24, none⟩ = some (.int .i64 0) := (blk_cell BK4.out 24).trans rfl
  have hcb_25 : w4.cell? ⟨g, 25, none⟩ = some (.bool false) := (blk_cell BK4.out 25).trans rfl
  have hcb_26 : w4.cell? ⟨g, 26, none⟩ = some (.bool false) := (blk_cell BK4.out 26).trans rfl
  have hcb_27 : w4.cell? ⟨g, 27, none⟩ = some (.int .i64 0) := (blk_cell BK4.out 27).trans rfl
  have hcb_28 : w4.cell? ⟨g, 28, none⟩ = some (.int .i64 0) := (blk_cell BK4.out 28).trans rfl
  have hcb_29 : w4.cell? ⟨g, 29, none⟩ = some (.int .u8 0) := (blk_cell BK4.out 29).trans rfl
  have hcb_30 : w4.cell? ⟨g, 30, none⟩ = some (.bool false) := (blk_cell BK4.out 30).trans rfl
  have hfb_6 := blk_frozen BK4.out 6
  have hfb_10 := blk_frozen BK4.out 10
  have hfb_29 := blk_frozen BK4.out 29
  go_wp2_with fail
  have BK5 := Aside0.mk (blk_set BK4.out 29 (.int .u8 97 : Value))
  have HO5 := Aside0.mk (Kd.R_set HO4.out BK4.out (by decide) 29 (.int .u8 97 : Value))
  have HB5 := Aside0.mk (show Below w0.heap.size w0 (w4.setCell ⟨g, 29, none⟩ (.int .u8 97)) from HB4.out.setCell hg _)
  have HS5 : Aside0 (w.heap.size ≤ (w4.setCell ⟨g, 29, none⟩ (.int .u8 97)).heap.size) := ⟨by have := HS4.out; simpa [World.setCell] using this⟩
  replace BK5 : Aside0 ((w4.setCell ⟨g, 29, none⟩ (.int .u8 97)).heap[g]? = some (.cells #[.int .u8 112, .int .u8 0, .int .u8 0, .int .i64 7, .int .i64 0, .int .i64 0, .int .i64 32, .int .i64 0, .int .i64 0, .int .u8 0, .int .u8 0, .string ⟨#[]⟩, .int .i64 0, .int .i64 0, .bool false, .nilFunc, .int .i64 0, .int .i64 0, .int .i64 0, .int .i64 0, .int .i64 0, .int .i64 0, .int .i64 0, .int .i64 0, .int .i64 0, .bool false, .bool false, .int .i64 0, .int .i64 0, .int .u8 97, .bool false] 31 (0, 0))) := ⟨BK5.out.trans rfl⟩
  clear hcb_0 hcb_1 hcb_2 hcb_3 hcb_4 hcb_5 hcb_6 hcb_7 hcb_8 hcb_9 hcb_10 hcb_11 hcb_12 hcb_13 hcb_16 hcb_17 hcb_18 hcb_19 hcb_20 hcb_21 hcb_22 hcb_23 hcb_24 hcb_25 hcb_26 hcb_27 hcb_28 hcb_29 hcb_30 hfb_6 hfb_10 hfb_29
  clear BK4 HO4 HB4 HS4
  generalize w4.setCell ⟨g, 29, none⟩ (.int .u8 97) = w5 at BK5 HO5 HB5 HS5 ⊢
  have hcc_0 : w5.cell? ⟨g, 0, none⟩ = some (.int .u8 112) := (blk_cell BK5.out 0).trans rfl
  have hcc_1 : w5.cell? ⟨g, 1, none⟩ = some (.int .u8 0) := (blk_cell BK5.out 1).trans rfl
  have hcc_2 : w5.cell? ⟨g, 2, none⟩ = some (.int .u8 0) := (blk_cell BK5.out 2).trans rfl
  have hcc_3 : w5.cell? ⟨g, 3, none⟩ = some (.int .i64 7) := (blk_cell BK5.out 3).trans rfl
  have hcc_4 : w5.cell? ⟨g, 4, none⟩ = some (.int .i64 0) := (blk_cell BK5.out 4).trans rfl
  have hcc_5 : w5.cell? ⟨g, 5, none⟩ = some (.int .i64 0) := (blk_cell BK5.out 5).trans rfl
  have hcc_6 : w5.cell? ⟨g, 6, none⟩ = some (.int .i64 32) := (blk_cell BK5.out 6).trans rfl
  have hcc_7 : w5.cell? ⟨g, 7, none⟩ = some (.int .i64 0) := (blk_cell BK5.out 7).trans rfl
  have hcc_8 : w5.cell? ⟨g, 8, none⟩ = some (.int .i64 0) := (blk_cell BK5.out 8).trans rfl
  have hcc_9 : w5.cell? ⟨g, 9, none⟩ = some (.int .u8 0) := (blk_cell BK5.out 9).trans rfl
  have hcc_10 : w5.cell? ⟨g, 10, none⟩ = some (.int .u8 0) := (blk_cell BK5.out 10).trans rfl
  have hcc_11 : w5.cell? ⟨g, 11, none⟩ = some (.string ⟨#[]⟩) := (blk_cell BK5.out 11).trans rfl
  have hcc_12 : w5.cell? ⟨g, 12, none⟩ = some (.int .i64 0) := (blk_cell BK5.out 12).trans rfl
  have hcc_13 : w5.cell? ⟨g, 13, none⟩ = some (.int .i64 0) := (blk_cell BK5.out 13).trans rfl
  have hcc_16 : w5.cell? ⟨g, 16, none⟩ = some (.int .i64 0) := (blk_cell BK5.out 16).trans rfl
  have hcc_17 : w5.cell? ⟨g, 17, none⟩ = some (.int .i64 0) := (blk_cell BK5.out 17).trans rfl
  have hcc_18 : w5.cell? ⟨g, 18, none⟩ = some (.int .i64 0) := (blk_cell BK5.out 18).trans rfl
  have hcc_19 : w5.cell? ⟨g, 19, none⟩ = some (.int .i64 0) := (blk_cell BK5.out 19).trans rfl
  have hcc_20 : w5.cell? ⟨g, 20, none⟩ = some (.int .i64 0) := (blk_cell BK5.out 20).trans rfl
  have hcc_21 : w5.cell? ⟨g, 21, none⟩ = some (.int .i64 0) := (blk_cell BK5.out 21).trans rfl
  have hcc_22 : w5.cell? ⟨g, 22, none⟩ = some (.int .i64 0) := (blk_cell BK5.out 22).trans rfl
  have hcc_23 : w5.cell? ⟨g, 23, none⟩ = some (.int .i64 0) := (blk_cell BK5.out 23).trans rfl
  have hcc_24 : w5.cell? ⟨g, 24, none⟩ = some (.int .i64 0) := (blk_cell BK5.out 24).trans rfl
  have hcc_25 : w5.cell? ⟨g, 25, none⟩ = some (.bool false) := (blk_cell BK5.out 25).trans rfl
  have hcc_26 : w5.cell? ⟨g, 26, none⟩ = some (.bool false) := (blk_cell BK5.out 26).trans rfl
  have hcc_27 : w5.cell? ⟨g, 27, none⟩ = some (.int .i64 0) := (blk_cell BK5.out 27).trans rfl
  have hcc_28 : w5.cell? ⟨g, 28, none⟩ = some (.int .i64 0) := (blk_cell BK5.out 28).trans rfl
  have hcc_29 : w5.cell? ⟨g, 29, none⟩ = some (.int .u8 97) := (blk_cell BK5.out 29).trans rfl
  have hcc_30 : w5.cell? ⟨g, 30, none⟩ = some (.bool false) := (blk_cell BK5.out 30).trans rfl
  have hfc_6 := blk_frozen BK5.out 6
  have hfc_10 := blk_frozen BK5.out 10
  have hfc_29 := blk_frozen BK5.out 29
  go_wp2_with fail
  have BK6 := Aside0.mk (blk_set BK5.out 10 (.int .u8 100 : Value))
  have HO6 := Aside0.mk (Kd.R_set HO5.out BK5.out (by decide) 10 (.int .u8 100 : Value))
  have HB6 := Aside0.mk (show Below w0.heap.size w0 (w5.setCell ⟨g, 10, none⟩ (.int .u8 100)) from HB5.out.setCell hg _)
  have HS6 : Aside0 (w.heap.size ≤ (w5.setCell ⟨g, 10, none⟩ (.int .u8 100)).heap.size) := ⟨by have := HS5.out; simpa [World.setCell] using this⟩
  replace BK6 : Aside0 ((w5.setCell ⟨g, 10, none⟩ (.int .u8 100)).heap[g]? = some (.cells #[.int .u8 112, .int .u8 0, .int .u8 0, .int .i64 7, .int .i64 0, .int .i64 0, .int .i64 32, .int .i64 0, .int .i64 0, .int .u8 0, .int .u8 100, .string ⟨#[]⟩, .int .i64 0, .int .i64 0, .bool false, .nilFunc, .int .i64 0, .int .i64 0, .int .i64 0, .int .i64 0, .int .i64 0, .int .i64 0, .int .i64 0, .int .i64 0, .int .i64 0, .bool false, .bool false, .int .i64 0, .int .i64 0, .int .u8 97, .bool false] 31 (0, 0))) := ⟨BK6.out.trans rfl⟩
  clear hcc_0 hcc_1 hcc_2 hcc_3 hcc_4 hcc_5 hcc_6 hcc_7 hcc_8 hcc_9 hcc_10 hcc_11 hcc_12 hcc_13 hcc_16 hcc_17 hcc_18 hcc_19 hcc_20 hcc_21 hcc_22 hcc_23 hcc_24 hcc_25 hcc_26 hcc_27 hcc_28 hcc_29 hcc_30 hfc_6 hfc_10 hfc_29
  clear BK5 HO5 HB5 HS5
  generalize w5.setCell ⟨g, 10, none⟩ (.int .u8 100) = w6 at BK6 HO6 HB6 HS6 ⊢
  have hcd_0 : w6.cell? ⟨g, 0, none⟩ = some (.int .u8 112) := (blk_cell BK6.out 0).trans rfl
  have hcd_1 : w6.cell? ⟨g, 1, none⟩ = some (.int .u8 0) := (blk_cell BK6.out 1).trans rfl
  have hcd_2 : w6.cell? ⟨g, 2, none⟩ = some (.int .u8 0) := (blk_cell BK6.out 2).trans rfl
  have hcd_3 : w6.cell? ⟨g, 3, none⟩ = some (.int .i64 7) := (blk_cell BK6.out 3).trans rfl
  have hcd_4 : w6.cell? ⟨g, 4, none⟩ = some (.int .i64 0) := (blk_cell BK6.out 4).trans rfl
  have hcd_5 : w6.cell? ⟨g, 5, none⟩ = some (.int .i64 0) := (blk_cell BK6.out 5).trans rfl
  have hcd_6 : w6.cell? ⟨g, 6, none⟩ = some (.int .i64 32) := (blk_cell BK6.out 6).trans rfl
  have hcd_7 : w6.cell? ⟨g, 7, none⟩ = some (.int .i64 0) := (blk_cell BK6.out 7).trans rfl
  have hcd_8 : w6.cell? ⟨g, 8, none⟩ = some (.int .i64 0) := (blk_cell BK6.out 8).trans rfl
  have hcd_9 : w6.cell? ⟨g, 9, none⟩ = some (.int .u8 0) := (blk_cell BK6.out 9).trans rfl
  have hcd_10 : w6.cell? ⟨g, 10, none⟩ = some (.int .u8 100) := (blk_cell BK6.out 10).trans rfl
  have hcd_11 : w6.cell? ⟨g, 11, none⟩ = some (.string ⟨#[]⟩) := (blk_cell BK6.out 11).trans rfl
  have hcd_12 : w6.cell? ⟨g, 12, none⟩ = some (.int .i64 0) := (blk_cell BK6.out 12).trans rfl
  have hcd_13 : w6.cell? ⟨g, 13, none⟩ = some (.int .i64 0) := (blk_cell BK6.out 13).trans rfl
  have hcd_16 : w6.cell? ⟨g, 16, none⟩ = some (.int .i64 0) := (blk_cell BK6.out 16).trans rfl
  have hcd_17 : w6.cell? ⟨g, 17, none⟩ = some (.int .i64 0) := (blk_cell BK6.out 17).trans rfl
  have hcd_18 : w6.cell? ⟨g, 18, none⟩ = some (.int .i64 0) := (blk_cell BK6.out 18).trans rfl
  have hcd_19 : w6.cell? ⟨g, 19, none⟩ = some (.int .i64 0) := (blk_cell BK6.out 19).trans rfl
  have hcd_20 : w6.cell? ⟨g, 20, none⟩ = some (.int .i64 0) := (blk_cell BK6.out 20).trans rfl
  have hcd_21 : w6.cell? ⟨g, 21, none⟩ = some (.int .i64 0) := (blk_cell BK6.out 21).trans rfl
  have hcd_22 : w6.cell? ⟨g, 22, none⟩ = some (.int .i64 0) := (blk_cell BK6.out 22).trans rfl
  have hcd_23 : w6.cell? ⟨g, 23, none⟩ = some (.int .i64 0) := (blk_cell BK6.out 23).trans rfl
  have hcd_24 : w6.cell? ⟨g, 24, none⟩ = some (.int .i64 0) := (blk_cell BK6.out 24).trans rfl
  have hcd_25 : w6.cell? ⟨g, 25, none⟩ = some (.bool false) := (blk_cell BK6.out 25).trans rfl
  have hcd_26 : w6.cell? ⟨g, 26, none⟩ = some (.bool false) := (blk_cell BK6.out 26).trans rfl
  have hcd_27 : w6.cell? ⟨g, 27, none⟩ = some (.int .i64 0) := (blk_cell BK6.out 27).trans rfl
  have hcd_28 : w6.cell? ⟨g, 28, none⟩ = some (.int .i64 0) := (blk_cell BK6.out 28).trans rfl
  have hcd_29 : w6.cell? ⟨g, 29, none⟩ = some (.int .u8 97) := (blk_cell BK6.out 29).trans rfl
  have hcd_30 : w6.cell? ⟨g, 30, none⟩ = some (.bool false) := (blk_cell BK6.out 30).trans rfl
  have hfd_6 := blk_frozen BK6.out 6
  have hfd_10 := blk_frozen BK6.out 10
  have hfd_29 := blk_frozen BK6.out 29
  go_wp2_with fail
  refine (strconv_Itoa.calls 7 ⟨#[55]⟩ w6 (HLD.out.below HB6.out) itoa7).mono ?_
  rintro e w7 ⟨rfl, hb7⟩
  have BK7 := Aside0.mk ((hb7.block g (blk_lt BK6.out)).trans BK6.out)
  have HO7 := Aside0.mk (Kd.R_below HO6.out hb7)
  have HB7 := Aside0.mk (below_step HB6.out hb7)
  have HS7 := Aside0.mk (Nat.le_trans HS6.out hb7.size)
  clear hcd_0 hcd_1 hcd_2 hcd_3 hcd_4 hcd_5 hcd_6 hcd_7 hcd_8 hcd_9 hcd_10 hcd_11 hcd_12 hcd_13 hcd_16 hcd_17 hcd_18 hcd_19 hcd_20 hcd_21 hcd_22 hcd_23 hcd_24 hcd_25 hcd_26 hcd_27 hcd_28 hcd_29 hcd_30 hfd_6 hfd_10 hfd_29
  clear BK6 HO6 HB6 HS6 hb7
  have hce_0 : w7.cell? ⟨g, 0, none⟩ = some (.int .u8 112) := (blk_cell BK7.out 0).trans rfl
  have hce_1 : w7.cell? ⟨g, 1, none⟩ = some (.int .u8 0) := (blk_cell BK7.out 1).trans rfl
  have hce_2 : w7.cell? ⟨g, 2, none⟩ = some (.int .u8 0) := (blk_cell BK7.out 2).trans rfl
  have hce_3 : w7.cell? ⟨g, 3, none⟩ = some (.int .i64 7) := (blk_cell BK7.out 3).trans rfl
  have hce_4 : w7.cell? ⟨g, 4, none⟩ = some (.int .i64 0) := (blk_cell BK7.out 4).trans rfl
  have hce_5 : w7.cell? ⟨g, 5, none⟩ = some (.int .i64 0) := (blk_cell BK7.out 5).trans rfl
  have hce_6 : w7.cell? ⟨g, 6, none⟩ = some (.int .i64 32) := (blk_cell BK7.out 6).trans rfl
  have hce_7 : w7.cell? ⟨g, 7, none⟩ = some (.int .i64 0) := (blk_cell BK7.out 7).trans rfl
  have hce_8 : w7.cell? ⟨g, 8, none⟩ = some (.int .i64 0) := (blk_cell BK7.out 8).trans rfl
  have hce_9 : w7.cell? ⟨g, 9, none⟩ = some (.int .u8 0) := (blk_cell BK7.out 9).trans rfl
  have hce_10 : w7.cell? ⟨g, 10, none⟩ = some (.int .u8 100) := (blk_cell BK7.out 10).trans rfl
  have hce_11 : w7.cell? ⟨g, 11, none⟩ = some (.string ⟨#[]⟩) := (blk_cell BK7.out 11).trans rfl
  have hce_12 : w7.cell? ⟨g, 12, none⟩ = some (.int .i64 0) := (blk_cell BK7.out 12).trans rfl
  have hce_13 : w7.cell? ⟨g, 13, none⟩ = some (.int .i64 0) := (blk_cell BK7.out 13).trans rfl
  have hce_16 : w7.cell? ⟨g, 16, none⟩ = some (.int .i64 0) := (blk_cell BK7.out 16).trans rfl
  have hce_17 : w7.cell? ⟨g, 17, none⟩ = some (.int .i64 0) := (blk_cell BK7.out 17).trans rfl
  have hce_18 : w7.cell? ⟨g, 18, none⟩ = some (.int .i64 0) := (blk_cell BK7.out 18).trans rfl
  have hce_19 : w7.cell? ⟨g, 19, none⟩ = some (.int .i64 0) := (blk_cell BK7.out 19).trans rfl
  have hce_20 : w7.cell? ⟨g, 20, none⟩ = some (.int .i64 0) := (blk_cell BK7.out 20).trans rfl
  have hce_21 : w7.cell? ⟨g, 21, none⟩ = some (.int .i64 0) := (blk_cell BK7.out 21).trans rfl
  have hce_22 : w7.cell? ⟨g, 22, none⟩ = some (.int .i64 0) := (blk_cell BK7.out 22).trans rfl
  have hce_23 : w7.cell? ⟨g, 23, none⟩ = some (.int .i64 0) := (blk_cell BK7.out 23).trans rfl
  have hce_24 : w7.cell? ⟨g, 24, none⟩ = some (.int .i64 0) := (blk_cell BK7.out 24).trans rfl
  have hce_25 : w7.cell? ⟨g, 25, none⟩ = some (.bool false) := (blk_cell BK7.out 25).trans rfl
  have hce_26 : w7.cell? ⟨g, 26, none⟩ = some (.bool false) := (blk_cell BK7.out 26).trans rfl
  have hce_27 : w7.cell? ⟨g, 27, none⟩ = some (.int .i64 0) := (blk_cell BK7.out 27).trans rfl
  have hce_28 : w7.cell? ⟨g, 28, none⟩ = some (.int .i64 0) := (blk_cell BK7.out 28).trans rfl
  have hce_29 : w7.cell? ⟨g, 29, none⟩ = some (.int .u8 97) := (blk_cell BK7.out 29).trans rfl
  have hce_30 : w7.cell? ⟨g, 30, none⟩ = some (.bool false) := (blk_cell BK7.out 30).trans rfl
  have hfe_6 := blk_frozen BK7.out 6
  have hfe_10 := blk_frozen BK7.out 10
  have hfe_29 := blk_frozen BK7.out 29
  go_wp2_with (first | ((with_reducible refine gate_builtin (b := .append) (xs := #[.tmp 88, .tmp 95]) rfl ?_); at_builtin; refine Kd.R_append Kd.string (w0 := w7) w.heap.size rfl (.tmp 88) (.tmp 95) 36 9 (.string ⟨#[]⟩) 16 rfl Tryd.underlying36 info9 rfl (by decide) (by omega) _ [] ((⟨#[105, 61]⟩ : ByteArray) ++ (⟨#[55]⟩ : ByteArray)) [.string ((⟨#[105, 61]⟩ : ByteArray) ++ (⟨#[55]⟩ : ByteArray))] (fun _ => True) (fun _ => False) rfl rfl ?aP (fun _ hk => hk.elim) ?aF ?aO ?aB ?aS ?aL ?_; (case aP => exact rfl); (case aB => exact Below.refl _ _); (case aF => exact (fun _ _ => trivial)); (case aO => exact HO7.out); (case aS => exact HS7.out); (case aL => decide); intro v8 w8 ho hb_ hg_ hat_; obtain ⟨A8, c8, e8⟩ := Kd.R_slice ho; subst e8; have HO8 := Aside0.mk ho; have BK8 := Aside0.mk ((hb_.block g HGW.out).trans BK7.out); have HB8 := Aside0.mk (HB7.out.trans (hb_.mono hgs)); have HS8 := Aside0.mk (Nat.le_trans HS7.out hb_.size); clear ho hb_ hg_ hat_; clear hce_0 hce_1 hce_2 hce_3 hce_4 hce_5 hce_6 hce_7 hce_8 hce_9 hce_10 hce_11 hce_12 hce_13 hce_16 hce_17 hce_18 hce_19 hce_20 hce_21 hce_22 hce_23 hce_24 hce_25 hce_26 hce_27 hce_28 hce_29 hce_30 hfe_6 hfe_10 hfe_29; clear BK7 HO7 HB7 HS7; have hcf_0 : w8.cell? ⟨g, 0, none⟩ = some (.int .u8 112) := (blk_cell BK8.out 0).trans rfl; have hcf_1 : w8.cell? ⟨g, 1, none⟩ = some (.int .u8 0) := (blk_cell BK8.out 1).trans rfl; have hcf_2 : w8.cell? ⟨g, 2, none⟩ = some (.int .u8 0) := (blk_cell BK8.out 2).trans rfl; have hcf_3 : w8.cell? ⟨g, 3, none⟩ = some (.int .i64 7) := (blk_cell BK8.out 3).trans rfl; have hcf_4 : w8.cell? ⟨g, 4, none⟩ = some (.int .i64 0) := (blk_cell BK8.out 4).trans rfl; have hcf_5 : w8.cell? ⟨g, 5, none⟩ = some (.int .i64 0) := (blk_cell BK8.out 5).trans rfl; have hcf_6 : w8.cell? ⟨g, 6, none⟩ = some (.int .i64 32) := (blk_cell BK8.out 6).trans rfl; have hcf_7 : w8.cell? ⟨g, 7, none⟩ = some (.int .i64 0) := (blk_cell BK8.out 7).trans rfl; have hcf_8 : w8.cell? ⟨g, 8, none⟩ = some (.int .i64 0) := (blk_cell BK8.out 8).trans rfl; have hcf_9 : w8.cell? ⟨g, 9, none⟩ = some (.int .u8 0) := (blk_cell BK8.out 9).trans rfl; have hcf_10 : w8.cell? ⟨g, 10, none⟩ = some (.int .u8 100) := (blk_cell BK8.out 10).trans rfl; have hcf_11 : w8.cell? ⟨g, 11, none⟩ = some (.string ⟨#[]⟩) := (blk_cell BK8.out 11).trans rfl; have hcf_12 : w8.cell? ⟨g, 12, none⟩ = some (.int .i64 0) := (blk_cell BK8.out 12).trans rfl; have hcf_13 : w8.cell? ⟨g, 13, none⟩ = some (.int .i64 0) := (blk_cell BK8.out 13).trans rfl; have hcf_16 : w8.cell? ⟨g, 16, none⟩ = some (.int .i64 0) := (blk_cell BK8.out 16).trans rfl; have hcf_17 : w8.cell? ⟨g, 17, none⟩ = some (.int .i64 0) := (blk_cell BK8.out 17).trans rfl; have hcf_18 : w8.cell? ⟨g, 18, none⟩ = some (.int .i64 0) := (blk_cell BK8.out 18).trans rfl; have hcf_19 : w8.cell? ⟨g, 19, none⟩ = some (.int .i64 0) := (blk_cell BK8.out 19).trans rfl; have hcf_20 : w8.cell? ⟨g, 20, none⟩ = some (.int .i64 0) := (blk_cell BK8.out 20).trans rfl; have hcf_21 : w8.cell? ⟨g, 21, none⟩ = some (.int .i64 0) := (blk_cell BK8.out 21).trans rfl; have hcf_22 : w8.cell? ⟨g, 22, none⟩ = some (.int .i64 0) := (blk_cell BK8.out 22).trans rfl; have hcf_23 : w8.cell? ⟨g, 23, none⟩ = some (.int .i64 0) := (blk_cell BK8.out 23).trans rfl; have hcf_24 : w8.cell? ⟨g, 24, none⟩ = some (.int .i64 0) := (blk_cell BK8.out 24).trans rfl; have hcf_25 : w8.cell? ⟨g, 25, none⟩ = some (.bool false) := (blk_cell BK8.out 25).trans rfl; have hcf_26 : w8.cell? ⟨g, 26, none⟩ = some (.bool false) := (blk_cell BK8.out 26).trans rfl; have hcf_27 : w8.cell? ⟨g, 27, none⟩ = some (.int .i64 0) := (blk_cell BK8.out 27).trans rfl; have hcf_28 : w8.cell? ⟨g, 28, none⟩ = some (.int .i64 0) := (blk_cell BK8.out 28).trans rfl; have hcf_29 : w8.cell? ⟨g, 29, none⟩ = some (.int .u8 97) := (blk_cell BK8.out 29).trans rfl; have hcf_30 : w8.cell? ⟨g, 30, none⟩ = some (.bool false) := (blk_cell BK8.out 30).trans rfl; have hff_6 := blk_frozen BK8.out 6; have hff_10 := blk_frozen BK8.out 10; have hff_29 := blk_frozen BK8.out 29) | ((with_reducible refine gate_builtin (b := .append) (xs := #[.tmp 412, .tmp 420]) rfl ?_); at_builtin; refine Kd.R_append Kd.string (w0 := w8) w.heap.size rfl (.tmp 412) (.tmp 420) 36 9 (.string ⟨#[]⟩) 16 rfl Tryd.underlying36 info9 rfl (by decide) (by omega) _ ([] ++ [((⟨#[105, 61]⟩ : ByteArray) ++ (⟨#[55]⟩ : ByteArray))]) ((⟨#[97, 61]⟩ : ByteArray) ++ Utf8.encode 112) [.string ((⟨#[97, 61]⟩ : ByteArray) ++ Utf8.encode 112)] (fun _ => True) (fun _ => False) rfl rfl ?aP (fun _ hk => hk.elim) ?aF ?aO ?aB ?aS ?aL ?_; (case aP => exact rfl); (case aB => exact Below.refl _ _); (case aF => exact (fun _ _ => trivial)); (case aO => exact HO8.out); (case aS => exact HS8.out); (case aL => decide); intro v9 w9 ho hb_ hg_ hat_; obtain ⟨A9, c9, e9⟩ := Kd.R_slice ho; subst e9; have HO9 := Aside0.mk ho; have BK9 := Aside0.mk ((hb_.block g HGW.out).trans BK8.out); have HB9 := Aside0.mk (HB8.out.trans (hb_.mono hgs)); have HS9 := Aside0.mk (Nat.le_trans HS8.out hb_.size); clear ho hb_ hg_ hat_; skip) | fail)
  go_ret
  have e1 : ([] ++ [((⟨#[105, 61]⟩ : ByteArray) ++ (⟨#[55]⟩ : ByteArray))]) ++ [((⟨#[97, 61]⟩ : ByteArray) ++ Utf8.encode 112)] = [i7, ap] := by decide +kernel
  exact ⟨_, rfl, by rw [← e1]; exact HO9.out, HB9.out⟩
end Go.Proofs.YtbgneopgpgpgoaaDoor.Dia
