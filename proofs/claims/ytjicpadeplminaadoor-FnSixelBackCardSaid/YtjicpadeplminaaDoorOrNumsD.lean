/- The contracts of the sixel decoders and of the reference's reading, by hand: both are the plain function 'nums'. -/
import Derived.Test.YtjicpadeplminaaDoorProg
import Derived.Test.YtjicpadeplminaaDoorNums
import Derived.Test.YtjicpadeplminaaDoorWWords
import Derived.Test.YtjicpadeplminaaDoorWLast
import Derived.WalkKit
import Derived.KernelRfl
import Derived.Below
import Derived.RegionTactic
import Derived.Deep.LoopGhost
import Derived.Lib.Hide
import Derived.Lib.Builder
namespace Go.Proofs.YtjicpadeplminaaDoor.Or
open Go Go.RowKit Go.Proofs.YtjicpadeplminaaDoor.Nums Go.Proofs.YtjicpadeplminaaDoorW.PrintWords Go.Proofs.YtjicpadeplminaaDoorW.PrintLast

theorem run_eql_ptr_block {P : Program} (w : World) {tp te : TypeId} {j : TypeInfo} (b x y : Nat) (hp : P.underlying tp = some (.pointer te)) (hte : P.info? te = some j) (hz : j.size ≠ 0) :
    (binOp .eql tp (.pointer (some ⟨b, x, none⟩)) (.pointer (some ⟨b, y, none⟩))).run P w = .ok (.bool (decide (x = y))) w := by
  have h : ∀ d : Nat, (Op.equalIn (d + 1) tp (.pointer (some ⟨b, x, none⟩)) (.pointer (some ⟨b, y, none⟩))).run P w = .ok (decide (x = y)) w := fun d => by
    by_cases hxy : x = y <;> simp [Op.equalIn, run_underlying hp, sizeOf, typeInfo, hte, sameAddr, hz, hxy]
  simp only [binOp]
  simp [Op.equal, Op.maxDepth, h 9999]
theorem eqp (b x y : Nat) (w : World) : (binOp .eql 77 (.pointer (some ⟨b, x, none⟩)) (.pointer (some ⟨b, y, none⟩))).run Tryd.prog w = .ok (.bool (decide (x = y))) w := by
  have h : (Tryd.prog.info? 3).map (fun i => i.size) = some 1 := by kernel_rfl
  cases hj : Tryd.prog.info? 3 with
  | none => rw [hj] at h; cases h
  | some j =>
    rw [hj] at h
    exact run_eql_ptr_block w b x y Tryd.underlying77 hj (by simp at h; omega)
theorem cell_set {w : World} {b j : Nat} {cs : Array Value} {t : TypeId} (h : w.heap[b]? = some (.cells cs t (0, 0))) (v : Value) : (w.setCell ⟨b, j, none⟩ v).heap[b]? = some (.cells (cs.setIfInBounds j v) t (0, 0)) := by
  have hlt := lt_of_block h
  have h' : w.heap[b] = .cells cs t (0, 0) := by simpa [Array.getElem?_eq_getElem hlt] using h
  show (w.heap.modify b _)[b]? = _
  rw [Array.getElem?_eq_getElem (by simpa using hlt), Array.getElem_modify_self, h']
  rfl

/-- All blocks but one stand as they stood. -/
structure But (B : Nat) (w w' : World) : Prop where
  os : w'.os = w.os
  tape : w'.tape = w.tape
  output : w'.output = w.output
  size : w'.heap.size = w.heap.size
  block : ∀ k, k ≠ B → w'.heap[k]? = w.heap[k]?
theorem But.refl (B : Nat) (w : World) : But B w w := ⟨rfl, rfl, rfl, rfl, fun _ _ => rfl⟩
theorem But.drew {B : Nat} {a w : World} (h : But B a w) : But B a w.drew := ⟨h.os, h.tape, h.output, h.size, h.block⟩
theorem But.setCell {B : Nat} {a w : World} (h : But B a w) (j : Nat) (u : Value) : But B a (w.setCell ⟨B, j, none⟩ u) :=
  ⟨h.os, h.tape, h.output, by rw [← h.size]; exact Array.size_modify, fun k hk => (Below.heap_setCell w ⟨B, j, none⟩ u k hk).trans (h.block k hk)⟩
theorem But.cell {B : Nat} {w w' : World} (h : But B w w') {p : Addr} (hp : p.block ≠ B) : w'.cell? p = w.cell? p := World.cell?_of_block (w := w) (h.block p.block hp)
theorem But.below {w0 w w' : World} (h : But w0.heap.size w w') (hb : Below w0.heap.size w0 w) : Below w0.heap.size w0 w' :=
  ⟨h.os.trans hb.os, h.tape.trans hb.tape, h.output.trans hb.output, h.size ▸ hb.size, fun k hk => (h.block k (by omega)).trans (hb.block k hk)⟩

theorem addr_block (a : Addr) (k : Nat) : (a.add k).block = a.block := by unfold Addr.add; split <;> rfl

theorem row_some {A0 : Option Addr} {l0 : List Int} {w : World} (hr0 : Kd.C (Kd.int .u8) w A0 l0.length l0) (h : 0 < l0.length) : ∃ ad, A0 = some ad ∧ ∀ k, k < l0.length → w.cell? (ad.add k) = some (.int .u8 (l0.getD k 0)) :=
  (Kd.reads_of_C (enc := Value.int .u8) (d := (0 : Int)) (h1 := fun _ => rfl) hr0).2.2 h

set_option maxHeartbeats 8000000 in
set_option maxRecDepth 100000 in
theorem raster_walk (ad : Addr) (c0 : Nat) (l0 : List Int) (w : World) (hc : ∀ k, k < l0.length → w.cell? (ad.add k) = some (.int .u8 (l0.getD k 0))) (hl : l0.length ≤ 1000000) (h0 : 0 < l0.length) (h1 : l0.getD 0 0 = 34) (r : List Int × Nat) (hr : Still 3 l0 1 0 [0, 0, 0, 0] r) :
    Calls Tryd.prog 24 #[.slice (some ad) l0.length c0] w fun e w' => e = .returned (.tuple #[.agg #[.int .i64 (r.1.getD 0 0), .int .i64 (r.1.getD 1 0), .int .i64 (r.1.getD 2 0), .int .i64 (r.1.getD 3 0)], .int .i64 (r.2 : Int)]) ∧ Below w.heap.size w w' := by
  have hc0 : w.cell? ad = some (.int .u8 34) := by have := hc 0 h0; rw [h1] at this; simpa [Addr.add] using this
  have t0 : ((l0.length : Int) == 0) = false := by simp; intro h; simp [h] at h0
  have hb : ad.block < w.heap.size := World.block_lt_of_cell? w _ hc0
  have HC := Lib.hid hc
  clear hc h1
  have q60 := eqp
  have HT := Lib.hid hr; clear hr
  go_enter Tryd.func24, Tryd.ntmps24
  go_wp2
  have HB := Lib.hid ((Below.refl w.heap.size w).alloc (Nat.le_refl _) (.cells #[.int .i64 0, .int .i64 0, .int .i64 0, .int .i64 0] 60))
  have HK := Lib.hid (heap_alloc_new w (.cells #[.int .i64 0, .int .i64 0, .int .i64 0, .int .i64 0] 60))
  go_loopw [3, 4] (fun n p wr => ∃ (k a : Nat) (x0 x1 x2 x3 : Int), n = .int .i64 k ∧ p = .pointer (some ⟨w.heap.size, a, none⟩) ∧ k ≤ l0.length ∧ a ≤ 3 ∧ Hid (Still 3 l0 k a [x0, x1, x2, x3] r) ∧ Hid (wr.heap[w.heap.size]? = some (.cells #[.int .i64 x0, .int .i64 x1, .int .i64 x2, .int .i64 x3] 60 (0, 0))) ∧ Hid (Below w.heap.size w wr)) (fun n _ _ => l0.length - (intOf n).toNat)
  case atStart => exact ⟨1, 0, 0, 0, 0, 0, rfl, rfl, by omega, by omega, HT, HK, HB⟩
  case round =>
    obtain ⟨k, a, x0, x1, x2, x3, rfl, rfl, hk, ha, HR, HBK, HBL⟩ := hrel
    have hblk := HBK.out
    have f0 : wr.cell? ⟨w.heap.size, 0, none⟩ = some (.int .i64 x0) := by simp [World.cell?, hblk]
    have g0 : wr.frozen? ⟨w.heap.size, 0, none⟩ = false := by simp [World.frozen?, hblk]
    have f1 : wr.cell? ⟨w.heap.size, 1, none⟩ = some (.int .i64 x1) := by simp [World.cell?, hblk]
    have g1 : wr.frozen? ⟨w.heap.size, 1, none⟩ = false := by simp [World.frozen?, hblk]
    have f2 : wr.cell? ⟨w.heap.size, 2, none⟩ = some (.int .i64 x2) := by simp [World.cell?, hblk]
    have g2 : wr.frozen? ⟨w.heap.size, 2, none⟩ = false := by simp [World.frozen?, hblk]
    have f3 : wr.cell? ⟨w.heap.size, 3, none⟩ = some (.int .i64 x3) := by simp [World.cell?, hblk]
    have g3 : wr.frozen? ⟨w.heap.size, 3, none⟩ = false := by simp [World.frozen?, hblk]
    clear hblk
    by_cases hlt : k < l0.length
    · have hcell : wr.cell? (ad.add k) = some (.int .u8 (l0.getD k 0)) := by
        have h := HC.out k hlt
        rw [HBL.out.cell (World.block_lt_of_cell? w _ h), h]
      have tlt : decide (k < l0.length) = true := decide_eq_true hlt
      obtain ⟨c, hcq⟩ : ∃ c, c = l0.getD k 0 := ⟨_, rfl⟩
      rw [← hcq] at hcell
      have hge : c = l0[k] := by rw [hcq]; simp [List.getD_eq_getElem?_getD, hlt]
      have HGE := Lib.hid hge
      clear hge hcq
      have hplace : a = 0 ∨ a = 1 ∨ a = 2 ∨ a = 3 := by omega
      by_cases hsemi : c = 59
      · have HS := Lib.hid (HGE.out.symm.trans hsemi)
        subst hsemi
        rcases hplace with rfl | rfl | rfl | rfl
        · go_wp2
          go_roundw
          case rel => exact ⟨k + 1, 1, x0, x1, x2, x3, by go_num, rfl, by omega, by omega, Lib.hid (HR.out.semi hlt HS.out (by decide)), HBK, HBL⟩
          case measure => simp [intOf]; omega
        · go_wp2
          go_roundw
          case rel => exact ⟨k + 1, 2, x0, x1, x2, x3, by go_num, rfl, by omega, by omega, Lib.hid (HR.out.semi hlt HS.out (by decide)), HBK, HBL⟩
          case measure => simp [intOf]; omega
        · go_wp2
          go_roundw
          case rel => exact ⟨k + 1, 3, x0, x1, x2, x3, by go_num, rfl, by omega, by omega, Lib.hid (HR.out.semi hlt HS.out (by decide)), HBK, HBL⟩
          case measure => simp [intOf]; omega
        · have HX := Lib.hid (HR.out.last hlt HS.out rfl)
          go_wp2
          refine bodyPost_ret (v := .tuple #[.agg #[.int .i64 x0, .int .i64 x1, .int .i64 x2, .int .i64 x3], .int .i64 ((k : Int) + 1)]) (by simp [results, Tryd.results24, go_sem, f0, f1, f2, f3]) rfl ⟨by rw [HX.out]; simp, ?_⟩
          exact ((((HBL.out).setCell (Nat.le_refl _) _).setCell (Nat.le_refl _) _).setCell (Nat.le_refl _) _).setCell (Nat.le_refl _) _
      · have d3 : (c == 59) = false := by simp; exact hsemi
        by_cases hdig : 48 ≤ c ∧ c ≤ 57
        · have d1 : decide (48 ≤ c) = true := decide_eq_true hdig.1
          have d2 : decide (c ≤ 57) = true := decide_eq_true hdig.2
          have HD := Lib.hid (show 48 ≤ l0[k] ∧ l0[k] ≤ 57 from HGE.out ▸ hdig)
          clear hsemi
          rcases hplace with rfl | rfl | rfl | rfl
          · go_wp2
            go_region
            go_wp2
            go_roundw
            case rel => exact ⟨k + 1, 0, wrap64 (wrap64 (x0 * 10) + (c - 48)), x1, x2, x3, by go_num, rfl, by omega, by omega, Lib.hid (by have h := HR.out.digit hlt HD.out.1 HD.out.2; rw [← HGE.out] at h; exact h), Lib.hid (cell_set HBK.out _), Lib.hid (HBL.out.setCell (Nat.le_refl _) _).drew⟩
            case measure => simp [intOf]; omega
          · go_wp2
            go_region
            go_wp2
            go_roundw
            case rel => exact ⟨k + 1, 1, x0, wrap64 (wrap64 (x1 * 10) + (c - 48)), x2, x3, by go_num, rfl, by omega, by omega, Lib.hid (by have h := HR.out.digit hlt HD.out.1 HD.out.2; rw [← HGE.out] at h; exact h), Lib.hid (cell_set HBK.out _), Lib.hid (HBL.out.setCell (Nat.le_refl _) _).drew⟩
            case measure => simp [intOf]; omega
          · go_wp2
            go_region
            go_wp2
            go_roundw
            case rel => exact ⟨k + 1, 2, x0, x1, wrap64 (wrap64 (x2 * 10) + (c - 48)), x3, by go_num, rfl, by omega, by omega, Lib.hid (by have h := HR.out.digit hlt HD.out.1 HD.out.2; rw [← HGE.out] at h; exact h), Lib.hid (cell_set HBK.out _), Lib.hid (HBL.out.setCell (Nat.le_refl _) _).drew⟩
            case measure => simp [intOf]; omega
          · go_wp2
            go_region
            go_wp2
            go_roundw
            case rel => exact ⟨k + 1, 3, x0, x1, x2, wrap64 (wrap64 (x3 * 10) + (c - 48)), by go_num, rfl, by omega, by omega, Lib.hid (by have h := HR.out.digit hlt HD.out.1 HD.out.2; rw [← HGE.out] at h; exact h), Lib.hid (cell_set HBK.out _), Lib.hid (HBL.out.setCell (Nat.le_refl _) _).drew⟩
            case measure => simp [intOf]; omega
        · have hno : l0[k] ≠ 59 := fun h => hsemi (HGE.out.trans h)
          have hnd : ¬ (48 ≤ l0[k] ∧ l0[k] ≤ 57) := fun h => hdig (HGE.out ▸ h)
          have HX := Lib.hid (HR.out.other hlt hno hnd)
          clear hno hnd hsemi
          by_cases d4 : 48 ≤ c
          · have d5 : decide (48 ≤ c) = true := decide_eq_true d4
            have d6 : decide (c ≤ 57) = false := decide_eq_false (by omega)
            go_wp2
            refine bodyPost_ret (v := .tuple #[.agg #[.int .i64 x0, .int .i64 x1, .int .i64 x2, .int .i64 x3], .int .i64 ((k : Int))]) (by simp [results, Tryd.results24, go_sem, f0, f1, f2, f3]) rfl ⟨by rw [HX.out]; simp, ?_⟩
            exact ((((HBL.out).setCell (Nat.le_refl _) _).setCell (Nat.le_refl _) _).setCell (Nat.le_refl _) _).setCell (Nat.le_refl _) _
          · have d5 : decide (48 ≤ c) = false := decide_eq_false d4
            go_wp2
            refine bodyPost_ret (v := .tuple #[.agg #[.int .i64 x0, .int .i64 x1, .int .i64 x2, .int .i64 x3], .int .i64 ((k : Int))]) (by simp [results, Tryd.results24, go_sem, f0, f1, f2, f3]) rfl ⟨by rw [HX.out]; simp, ?_⟩
            exact ((((HBL.out).setCell (Nat.le_refl _) _).setCell (Nat.le_refl _) _).setCell (Nat.le_refl _) _).setCell (Nat.le_refl _) _
    · have hke : k = l0.length := by omega
      have HX := Lib.hid (HR.out.end_ hke)
      have tlt : decide (k < l0.length) = false := decide_eq_false hlt
      clear hke
      go_wp2
      refine bodyPost_ret (v := .tuple #[.agg #[.int .i64 x0, .int .i64 x1, .int .i64 x2, .int .i64 x3], .int .i64 ((k : Int))]) (by simp [results, Tryd.results24, go_sem, f0, f1, f2, f3]) rfl ⟨by rw [HX.out]; simp, ?_⟩
      exact ((((HBL.out).setCell (Nat.le_refl _) _).setCell (Nat.le_refl _) _).setCell (Nat.le_refl _) _).setCell (Nat.le_refl _) _

set_option maxHeartbeats 8000000 in
set_option maxRecDepth 100000 in
theorem raster_not (ad : Addr) (c0 : Nat) (l0 : List Int) (w : World) (h0 : 0 < l0.length) (hc0 : w.cell? ad = some (.int .u8 (l0.getD 0 0))) (h1 : l0.getD 0 0 ≠ 34) :
    Calls Tryd.prog 24 #[.slice (some ad) l0.length c0] w fun e w' => e = .returned (.tuple #[.agg #[.int .i64 0, .int .i64 0, .int .i64 0, .int .i64 0], .int .i64 0]) ∧ Below w.heap.size w w' := by
  have t0 : ((l0.length : Int) == 0) = false := by simp; intro h; simp [h] at h0
  obtain ⟨c, hcq⟩ : ∃ c, c = l0.getD 0 0 := ⟨_, rfl⟩
  rw [← hcq] at hc0 h1
  clear hcq
  have t1 : (c != 34) = true := by simpa using h1
  have hb : ad.block < w.heap.size := World.block_lt_of_cell? w _ hc0
  go_enter Tryd.func24, Tryd.ntmps24
  go_wp2
  exact bodyPost_ret (v := .tuple #[.agg #[.int .i64 0, .int .i64 0, .int .i64 0, .int .i64 0], .int .i64 0]) (by simp [results, Tryd.results24, go_sem]) rfl ⟨rfl, (Below.refl _ _).alloc (Nat.le_refl _) _⟩
theorem raster_nil (A0 : Option Addr) (c0 : Nat) (w : World) : Calls Tryd.prog 24 #[.slice A0 0 c0] w fun e w' => e = .returned (.tuple #[.agg #[.int .i64 0, .int .i64 0, .int .i64 0, .int .i64 0], .int .i64 0]) ∧ Below w.heap.size w w' := by
  go_enter Tryd.func24, Tryd.ntmps24
  go_wp2
  exact bodyPost_ret (v := .tuple #[.agg #[.int .i64 0, .int .i64 0, .int .i64 0, .int .i64 0], .int .i64 0]) (by simp [results, Tryd.results24, go_sem]) rfl ⟨rfl, (Below.refl _ _).alloc (Nat.le_refl _) _⟩
def sixel_DecodeRaster.f (l0 : List Int) : Option (Int × Int × Int × Int × Int) := if l0.length ≤ 1000000 then some ((rast l0).1.getD 0 0, (rast l0).1.getD 1 0, (rast l0).1.getD 2 0, (rast l0).1.getD 3 0, ((rast l0).2 : Int)) else none
theorem sixel_DecodeRaster.calls (A0 : Option Addr) (c0 : Nat) (l0 : List Int) (r1 r2 r3 r4 r5 : Int) (w : World) (hr0 : Kd.C (Kd.int .u8) w A0 l0.length l0) (_hc0 : l0.length ≤ c0) (h : sixel_DecodeRaster.f l0 = some (r1, r2, r3, r4, r5)) :
    Calls Tryd.prog 24 #[.slice A0 l0.length c0] w fun e w' => e = .returned (.tuple #[.agg #[.int .i64 r1, .int .i64 r2, .int .i64 r3, .int .i64 r4], .int .i64 r5]) ∧ Below w.heap.size w w' := by
  unfold sixel_DecodeRaster.f at h
  split at h
  · rename_i hl
    simp only [Option.some.injEq, Prod.mk.injEq] at h
    obtain ⟨rfl, rfl, rfl, rfl, rfl⟩ := h
    by_cases h0 : l0.length = 0
    · obtain rfl : l0 = [] := List.length_eq_zero_iff.1 h0
      exact raster_nil A0 c0 w
    · obtain ⟨ad, rfl, hc⟩ := row_some hr0 (by omega)
      by_cases h1 : l0.getD 0 0 = 34
      · refine raster_walk ad c0 l0 w hc hl (by omega) h1 (rast l0) ?_
        unfold rast Still
        rw [if_neg (by omega)]
        exact ⟨rfl, rfl⟩
      · have hr : rast l0 = ([0, 0, 0, 0], 0) := by unfold rast; rw [if_pos (Or.inr h1)]
        rw [hr]
        exact raster_not ad c0 l0 w (by omega) (by have := hc 0 (by omega); simpa [Addr.add] using this) h1
  · cases h

def spec_SixelRasterIn.f (l0 : List Int) : Option (Int × Int × Int × Int × Int) := if l0.length ≤ 1000000 then some ((rast l0).1.getD 0 0, (rast l0).1.getD 1 0, (rast l0).1.getD 2 0, (rast l0).1.getD 3 0, ((rast l0).2 : Int)) else none
theorem still_le {m : Nat} {l : List Int} {k a : Nat} {v : List Int} {r : List Int × Nat} (h : Still m l k a v r) (hk : k ≤ l.length) : r.2 ≤ l.length := by
  have h1 := nums_le m (l.drop k) a v
  rw [List.length_drop] at h1
  have h2 := h.2
  omega

set_option maxHeartbeats 8000000 in
set_option maxRecDepth 100000 in
theorem color_walk (ad : Addr) (c0 : Nat) (l0 : List Int) (w : World) (hc : ∀ k, k < l0.length → w.cell? (ad.add k) = some (.int .u8 (l0.getD k 0))) (hl : l0.length ≤ 1000000) (h0 : 2 ≤ l0.length) (h1 : l0.getD 0 0 = 35) (r q : List Int × Nat) (hr : Still 1 l0 1 0 [0, 0] r) (hq : Still 2 l0 r.2 0 [0, 0, 0] q) :
    Calls Tryd.prog 27 #[.slice (some ad) l0.length c0] w fun e w' => e = .returned (.tuple #[.agg #[.int .i64 (r.1.getD 0 0), .int .i64 (r.1.getD 1 0), .int .i64 (q.1.getD 0 0), .int .i64 (q.1.getD 1 0), .int .i64 (q.1.getD 2 0)], .int .i64 (q.2 : Int)]) ∧ Below w.heap.size w w' := by
  have hc0 : w.cell? ad = some (.int .u8 35) := by have := hc 0 (by omega); rw [h1] at this; simpa [Addr.add] using this
  have t0 : ((l0.length : Int) == 0) = false := by simp; intro h; simp [h] at h0
  have t2 : decide ((l0.length : Int) < 2) = false := decide_eq_false (by omega)
  have t3 : decide (l0.length < 2) = false := decide_eq_false (by omega)
  have hb : ad.block < w.heap.size := World.block_lt_of_cell? w _ hc0
  have HC := Lib.hid hc
  clear hc h1
  have q60 := eqp
  have HT := Lib.hid hr; have HQ := Lib.hid hq; clear hr hq
  have HB := Lib.hid ((Below.refl w.heap.size w).alloc (Nat.le_refl _) (.cells #[.int .i64 0, .int .i64 0, .int .i64 0, .int .i64 0, .int .i64 0] 67))
  have HK := Lib.hid (heap_alloc_new w (.cells #[.int .i64 0, .int .i64 0, .int .i64 0, .int .i64 0, .int .i64 0] 67))
  go_enter Tryd.func27, Tryd.ntmps27
  go_upto_block 0 with (fail)
  go_cut [3] (fun v wc => ∃ (y0 y1 : Int) (u : Nat), v = .int .i64 u ∧ Hid (r = ([y0, y1], u)) ∧ Hid (wc.heap[w.heap.size]? = some (.cells #[.int .i64 y0, .int .i64 y1, .int .i64 0, .int .i64 0, .int .i64 0] 67 (0, 0))) ∧ Hid (Below w.heap.size w wc))
  case first =>
    go_wp2
    go_loopw [3, 4] (fun n p wr => ∃ (k a : Nat) (x0 x1 : Int), n = .int .i64 k ∧ p = .pointer (some ⟨w.heap.size, a, none⟩) ∧ k ≤ l0.length ∧ a ≤ 1 ∧ Hid (Still 1 l0 k a [x0, x1] r) ∧ Hid (wr.heap[w.heap.size]? = some (.cells #[.int .i64 x0, .int .i64 x1, .int .i64 0, .int .i64 0, .int .i64 0] 67 (0, 0))) ∧ Hid (Below w.heap.size w wr)) (fun n _ _ => l0.length - (intOf n).toNat)
    case atStart => exact ⟨1, 0, 0, 0, rfl, rfl, by omega, by omega, HT, HK, HB⟩
    case round =>
      obtain ⟨k, a, x0, x1, rfl, rfl, hk, ha, HR, HBK, HBL⟩ := hrel
      have hblk := HBK.out
      have f0 : wr.cell? ⟨w.heap.size, 0, none⟩ = some (.int .i64 x0) := by simp [World.cell?, hblk]
      have g0 : wr.frozen? ⟨w.heap.size, 0, none⟩ = false := by simp [World.frozen?, hblk]
      have f1 : wr.cell? ⟨w.heap.size, 1, none⟩ = some (.int .i64 x1) := by simp [World.cell?, hblk]
      have g1 : wr.frozen? ⟨w.heap.size, 1, none⟩ = false := by simp [World.frozen?, hblk]
      have f2 : wr.cell? ⟨w.heap.size, 2, none⟩ = some (.int .i64 0) := by simp [World.cell?, hblk]
      have g2 : wr.frozen? ⟨w.heap.size, 2, none⟩ = false := by simp [World.frozen?, hblk]
      have f3 : wr.cell? ⟨w.heap.size, 3, none⟩ = some (.int .i64 0) := by simp [World.cell?, hblk]
      have g3 : wr.frozen? ⟨w.heap.size, 3, none⟩ = false := by simp [World.frozen?, hblk]
      have f4 : wr.cell? ⟨w.heap.size, 4, none⟩ = some (.int .i64 0) := by simp [World.cell?, hblk]
      have g4 : wr.frozen? ⟨w.heap.size, 4, none⟩ = false := by simp [World.frozen?, hblk]
      clear hblk
      by_cases hlt : k < l0.length
      · have hcell : wr.cell? (ad.add k) = some (.int .u8 (l0.getD k 0)) := by
          have h := HC.out k hlt
          rw [HBL.out.cell (World.block_lt_of_cell? w _ h), h]
        have tlt : decide (k < l0.length) = true := decide_eq_true hlt
        obtain ⟨c, hcq⟩ : ∃ c, c = l0.getD k 0 := ⟨_, rfl⟩
        rw [← hcq] at hcell
        have hge : c = l0[k] := by rw [hcq]; simp [List.getD_eq_getElem?_getD, hlt]
        have HGE := Lib.hid hge
        clear hge hcq
        have hplace : a = 0 ∨ a = 1 := by omega
        by_cases hsemi : c = 59
        · have HS := Lib.hid (HGE.out.symm.trans hsemi)
          subst hsemi
          rcases hplace with rfl | rfl
          · go_wp2
            go_roundw
            case rel => exact ⟨k + 1, 1, x0, x1, by go_num, rfl, by omega, by omega, Lib.hid (HR.out.semi hlt HS.out (by decide)), HBK, HBL⟩
            case measure => simp [intOf]; omega
          · have HX := Lib.hid (HR.out.last hlt HS.out rfl)
            go_wp2
            go_meet
            case rel => exact ⟨x0, x1, k + 1, by go_num, HX, HBK, HBL⟩
        · have d3 : (c == 59) = false := by simp; exact hsemi
          by_cases hdig : 48 ≤ c ∧ c ≤ 57
          · have d1 : decide (48 ≤ c) = true := decide_eq_true hdig.1
            have d2 : decide (c ≤ 57) = true := decide_eq_true hdig.2
            have HD := Lib.hid (show 48 ≤ l0[k] ∧ l0[k] ≤ 57 from HGE.out ▸ hdig)
            clear hsemi
            rcases hplace with rfl | rfl
            · go_wp2
              go_region
              go_wp2
              go_roundw
              case rel => exact ⟨k + 1, 0, wrap64 (wrap64 (x0 * 10) + (c - 48)), x1, by go_num, rfl, by omega, by omega, Lib.hid (by have h := HR.out.digit hlt HD.out.1 HD.out.2; rw [← HGE.out] at h; exact h), Lib.hid (cell_set HBK.out _), Lib.hid (HBL.out.setCell (Nat.le_refl _) _).drew⟩
              case measure => simp [intOf]; omega
            · go_wp2
              go_region
              go_wp2
              go_roundw
              case rel => exact ⟨k + 1, 1, x0, wrap64 (wrap64 (x1 * 10) + (c - 48)), by go_num, rfl, by omega, by omega, Lib.hid (by have h := HR.out.digit hlt HD.out.1 HD.out.2; rw [← HGE.out] at h; exact h), Lib.hid (cell_set HBK.out _), Lib.hid (HBL.out.setCell (Nat.le_refl _) _).drew⟩
              case measure => simp [intOf]; omega
          · have hno : l0[k] ≠ 59 := fun h => hsemi (HGE.out.trans h)
            have hnd : ¬ (48 ≤ l0[k] ∧ l0[k] ≤ 57) := fun h => hdig (HGE.out ▸ h)
            have HX := Lib.hid (HR.out.other hlt hno hnd)
            clear hno hnd hsemi
            by_cases d4 : 48 ≤ c
            · have d5 : decide (48 ≤ c) = true := decide_eq_true d4
              have d6 : decide (c ≤ 57) = false := decide_eq_false (by omega)
              go_wp2
              go_meet
              case rel => exact ⟨x0, x1, k, by go_num, HX, HBK, HBL⟩
            · have d5 : decide (48 ≤ c) = false := decide_eq_false d4
              go_wp2
              go_meet
              case rel => exact ⟨x0, x1, k, by go_num, HX, HBK, HBL⟩
      · have hke : k = l0.length := by omega
        have HX := Lib.hid (HR.out.end_ hke)
        have tlt : decide (k < l0.length) = false := decide_eq_false hlt
        clear hke
        go_wp2
        go_meet
        case rel => exact ⟨x0, x1, k, by go_num, HX, HBK, HBL⟩
  case rest =>
    obtain ⟨y0, y1, u, rfl, HR1, HK1, HB1⟩ := hcut
    have hu : u ≤ l0.length := by have := still_le HT.out (by omega : 1 ≤ l0.length); rw [HR1.out] at this; exact this
    have hq2 := HQ.out
    rw [HR1.out] at hq2
    have HQ2 := Lib.hid hq2
    clear hq2
    go_wp2
    go_loopw [3, 5] (fun n p wr => ∃ (k a : Nat) (x2 x3 x4 : Int), n = .int .i64 k ∧ p = .pointer (some ⟨w.heap.size, 2 + a, none⟩) ∧ k ≤ l0.length ∧ a ≤ 2 ∧ Hid (Still 2 l0 k a [x2, x3, x4] q) ∧ Hid (wr.heap[w.heap.size]? = some (.cells #[.int .i64 y0, .int .i64 y1, .int .i64 x2, .int .i64 x3, .int .i64 x4] 67 (0, 0))) ∧ Hid (Below w.heap.size w wr)) (fun n _ _ => l0.length - (intOf n).toNat)
    case atStart => exact ⟨u, 0, 0, 0, 0, rfl, rfl, hu, by omega, HQ2, HK1, HB1⟩
    case round =>
      obtain ⟨k, a, x2, x3, x4, rfl, rfl, hk, ha, HR, HBK, HBL⟩ := hrel
      have hblk := HBK.out
      have f0 : wr.cell? ⟨w.heap.size, 0, none⟩ = some (.int .i64 y0) := by simp [World.cell?, hblk]
      have g0 : wr.frozen? ⟨w.heap.size, 0, none⟩ = false := by simp [World.frozen?, hblk]
      have f1 : wr.cell? ⟨w.heap.size, 1, none⟩ = some (.int .i64 y1) := by simp [World.cell?, hblk]
      have g1 : wr.frozen? ⟨w.heap.size, 1, none⟩ = false := by simp [World.frozen?, hblk]
      have f2 : wr.cell? ⟨w.heap.size, 2, none⟩ = some (.int .i64 x2) := by simp [World.cell?, hblk]
      have g2 : wr.frozen? ⟨w.heap.size, 2, none⟩ = false := by simp [World.frozen?, hblk]
      have f3 : wr.cell? ⟨w.heap.size, 3, none⟩ = some (.int .i64 x3) := by simp [World.cell?, hblk]
      have g3 : wr.frozen? ⟨w.heap.size, 3, none⟩ = false := by simp [World.frozen?, hblk]
      have f4 : wr.cell? ⟨w.heap.size, 4, none⟩ = some (.int .i64 x4) := by simp [World.cell?, hblk]
      have g4 : wr.frozen? ⟨w.heap.size, 4, none⟩ = false := by simp [World.frozen?, hblk]
      clear hblk
      by_cases hlt : k < l0.length
      · have hcell : wr.cell? (ad.add k) = some (.int .u8 (l0.getD k 0)) := by
          have h := HC.out k hlt
          rw [HBL.out.cell (World.block_lt_of_cell? w _ h), h]
        have tlt : decide (k < l0.length) = true := decide_eq_true hlt
        obtain ⟨c, hcq⟩ : ∃ c, c = l0.getD k 0 := ⟨_, rfl⟩
        rw [← hcq] at hcell
        have hge : c = l0[k] := by rw [hcq]; simp [List.getD_eq_getElem?_getD, hlt]
        have HGE := Lib.hid hge
        clear hge hcq
        have hplace : a = 0 ∨ a = 1 ∨ a = 2 := by omega
        by_cases hsemi : c = 59
        · have HS := Lib.hid (HGE.out.symm.trans hsemi)
          subst hsemi
          rcases hplace with rfl | rfl | rfl
          · go_wp2
            go_roundw
            case rel => exact ⟨k + 1, 1, x2, x3, x4, by go_num, rfl, by omega, by omega, Lib.hid (HR.out.semi hlt HS.out (by decide)), HBK, HBL⟩
            case measure => simp [intOf]; omega
          · go_wp2
            go_roundw
            case rel => exact ⟨k + 1, 2, x2, x3, x4, by go_num, rfl, by omega, by omega, Lib.hid (HR.out.semi hlt HS.out (by decide)), HBK, HBL⟩
            case measure => simp [intOf]; omega
          · have HX := Lib.hid (HR.out.last hlt HS.out rfl)
            go_wp2
            refine bodyPost_ret (v := .tuple #[.agg #[.int .i64 y0, .int .i64 y1, .int .i64 x2, .int .i64 x3, .int .i64 x4], .int .i64 ((k : Int) + 1)]) (by simp [results, Tryd.results27, go_sem, f0, f1, f2, f3, f4]) rfl ⟨by rw [HX.out, HR1.out]; simp, ?_⟩
            exact (((((HBL.out).setCell (Nat.le_refl _) _).setCell (Nat.le_refl _) _).setCell (Nat.le_refl _) _).setCell (Nat.le_refl _) _).setCell (Nat.le_refl _) _
        · have d3 : (c == 59) = false := by simp; exact hsemi
          by_cases hdig : 48 ≤ c ∧ c ≤ 57
          · have d1 : decide (48 ≤ c) = true := decide_eq_true hdig.1
            have d2 : decide (c ≤ 57) = true := decide_eq_true hdig.2
            have HD := Lib.hid (show 48 ≤ l0[k] ∧ l0[k] ≤ 57 from HGE.out ▸ hdig)
            clear hsemi
            rcases hplace with rfl | rfl | rfl
            · go_wp2
              go_region
              go_wp2
              go_roundw
              case rel => exact ⟨k + 1, 0, wrap64 (wrap64 (x2 * 10) + (c - 48)), x3, x4, by go_num, rfl, by omega, by omega, Lib.hid (by have h := HR.out.digit hlt HD.out.1 HD.out.2; rw [← HGE.out] at h; exact h), Lib.hid (cell_set HBK.out _), Lib.hid (HBL.out.setCell (Nat.le_refl _) _).drew⟩
              case measure => simp [intOf]; omega
            · go_wp2
              go_region
              go_wp2
              go_roundw
              case rel => exact ⟨k + 1, 1, x2, wrap64 (wrap64 (x3 * 10) + (c - 48)), x4, by go_num, rfl, by omega, by omega, Lib.hid (by have h := HR.out.digit hlt HD.out.1 HD.out.2; rw [← HGE.out] at h; exact h), Lib.hid (cell_set HBK.out _), Lib.hid (HBL.out.setCell (Nat.le_refl _) _).drew⟩
              case measure => simp [intOf]; omega
            · go_wp2
              go_region
              go_wp2
              go_roundw
              case rel => exact ⟨k + 1, 2, x2, x3, wrap64 (wrap64 (x4 * 10) + (c - 48)), by go_num, rfl, by omega, by omega, Lib.hid (by have h := HR.out.digit hlt HD.out.1 HD.out.2; rw [← HGE.out] at h; exact h), Lib.hid (cell_set HBK.out _), Lib.hid (HBL.out.setCell (Nat.le_refl _) _).drew⟩
              case measure => simp [intOf]; omega
          · have hno : l0[k] ≠ 59 := fun h => hsemi (HGE.out.trans h)
            have hnd : ¬ (48 ≤ l0[k] ∧ l0[k] ≤ 57) := fun h => hdig (HGE.out ▸ h)
            have HX := Lib.hid (HR.out.other hlt hno hnd)
            clear hno hnd hsemi
            by_cases d4 : 48 ≤ c
            · have d5 : decide (48 ≤ c) = true := decide_eq_true d4
              have d6 : decide (c ≤ 57) = false := decide_eq_false (by omega)
              go_wp2
              refine bodyPost_ret (v := .tuple #[.agg #[.int .i64 y0, .int .i64 y1, .int .i64 x2, .int .i64 x3, .int .i64 x4], .int .i64 ((k : Int))]) (by simp [results, Tryd.results27, go_sem, f0, f1, f2, f3, f4]) rfl ⟨by rw [HX.out, HR1.out]; simp, ?_⟩
              exact (((((HBL.out).setCell (Nat.le_refl _) _).setCell (Nat.le_refl _) _).setCell (Nat.le_refl _) _).setCell (Nat.le_refl _) _).setCell (Nat.le_refl _) _
            · have d5 : decide (48 ≤ c) = false := decide_eq_false d4
              go_wp2
              refine bodyPost_ret (v := .tuple #[.agg #[.int .i64 y0, .int .i64 y1, .int .i64 x2, .int .i64 x3, .int .i64 x4], .int .i64 ((k : Int))]) (by simp [results, Tryd.results27, go_sem, f0, f1, f2, f3, f4]) rfl ⟨by rw [HX.out, HR1.out]; simp, ?_⟩
              exact (((((HBL.out).setCell (Nat.le_refl _) _).setCell (Nat.le_refl _) _).setCell (Nat.le_refl _) _).setCell (Nat.le_refl _) _).setCell (Nat.le_refl _) _
      · have hke : k = l0.length := by omega
        have HX := Lib.hid (HR.out.end_ hke)
        have tlt : decide (k < l0.length) = false := decide_eq_false hlt
        clear hke
        go_wp2
        refine bodyPost_ret (v := .tuple #[.agg #[.int .i64 y0, .int .i64 y1, .int .i64 x2, .int .i64 x3, .int .i64 x4], .int .i64 ((k : Int))]) (by simp [results, Tryd.results27, go_sem, f0, f1, f2, f3, f4]) rfl ⟨by rw [HX.out, HR1.out]; simp, ?_⟩
        exact (((((HBL.out).setCell (Nat.le_refl _) _).setCell (Nat.le_refl _) _).setCell (Nat.le_refl _) _).setCell (Nat.le_refl _) _).setCell (Nat.le_refl _) _

set_option maxHeartbeats 8000000 in
set_option maxRecDepth 100000 in
theorem color_not (ad : Addr) (c0 : Nat) (l0 : List Int) (w : World) (h0 : 2 ≤ l0.length) (hc0 : w.cell? ad = some (.int .u8 (l0.getD 0 0))) (h1 : l0.getD 0 0 ≠ 35) :
    Calls Tryd.prog 27 #[.slice (some ad) l0.length c0] w fun e w' => e = .returned (.tuple #[.agg #[.int .i64 0, .int .i64 0, .int .i64 0, .int .i64 0, .int .i64 0], .int .i64 0]) ∧ Below w.heap.size w w' := by
  have t0 : ((l0.length : Int) == 0) = false := by simp; intro h; simp [h] at h0
  have t2 : decide ((l0.length : Int) < 2) = false := decide_eq_false (by omega)
  have t3 : decide (l0.length < 2) = false := decide_eq_false (by omega)
  obtain ⟨c, hcq⟩ : ∃ c, c = l0.getD 0 0 := ⟨_, rfl⟩
  rw [← hcq] at hc0 h1
  clear hcq
  have t1 : (c != 35) = true := by simpa using h1
  have hb : ad.block < w.heap.size := World.block_lt_of_cell? w _ hc0
  go_enter Tryd.func27, Tryd.ntmps27
  go_wp2
  exact bodyPost_ret (v := .tuple #[.agg #[.int .i64 0, .int .i64 0, .int .i64 0, .int .i64 0, .int .i64 0], .int .i64 0]) (by simp [results, Tryd.results27, go_sem]) rfl ⟨rfl, (Below.refl _ _).alloc (Nat.le_refl _) _⟩

theorem color_nil (A0 : Option Addr) (c0 : Nat) (w : World) : Calls Tryd.prog 27 #[.slice A0 0 c0] w fun e w' => e = .returned (.tuple #[.agg #[.int .i64 0, .int .i64 0, .int .i64 0, .int .i64 0, .int .i64 0], .int .i64 0]) ∧ Below w.heap.size w w' := by
  go_enter Tryd.func27, Tryd.ntmps27
  go_wp2
  exact bodyPost_ret (v := .tuple #[.agg #[.int .i64 0, .int .i64 0, .int .i64 0, .int .i64 0, .int .i64 0], .int .i64 0]) (by simp [results, Tryd.results27, go_sem]) rfl ⟨rfl, (Below.refl _ _).alloc (Nat.le_refl _) _⟩
theorem color_one (ad : Addr) (c0 : Nat) (c : Int) (w : World) (hc0 : w.cell? ad = some (.int .u8 c)) : Calls Tryd.prog 27 #[.slice (some ad) 1 c0] w fun e w' => e = .returned (.tuple #[.agg #[.int .i64 0, .int .i64 0, .int .i64 0, .int .i64 0, .int .i64 0], .int .i64 0]) ∧ Below w.heap.size w w' := by
  have hb : ad.block < w.heap.size := World.block_lt_of_cell? w _ hc0
  cases t1 : (c != 35) with
  | true =>
    go_enter Tryd.func27, Tryd.ntmps27
    go_wp2
    exact bodyPost_ret (v := .tuple #[.agg #[.int .i64 0, .int .i64 0, .int .i64 0, .int .i64 0, .int .i64 0], .int .i64 0]) (by simp [results, Tryd.results27, go_sem]) rfl ⟨rfl, (Below.refl _ _).alloc (Nat.le_refl _) _⟩
  | false =>
    go_enter Tryd.func27, Tryd.ntmps27
    go_wp2
    exact bodyPost_ret (v := .tuple #[.agg #[.int .i64 0, .int .i64 0, .int .i64 0, .int .i64 0, .int .i64 0], .int .i64 0]) (by simp [results, Tryd.results27, go_sem]) rfl ⟨rfl, (Below.refl _ _).alloc (Nat.le_refl _) _⟩

def spec_SixelColorIn.f (l0 : List Int) : Option (Int × Int × Int × Int × Int × Int) := if l0.length ≤ 1000000 then some ((colr l0).1.getD 0 0, (colr l0).1.getD 1 0, (colr l0).2.1.getD 0 0, (colr l0).2.1.getD 1 0, (colr l0).2.1.getD 2 0, ((colr l0).2.2 : Int)) else none
def sixel_DecodeColor.f (l0 : List Int) : Option (Int × Int × Int × Int × Int × Int) := if l0.length ≤ 1000000 then some ((colr l0).1.getD 0 0, (colr l0).1.getD 1 0, (colr l0).2.1.getD 0 0, (colr l0).2.1.getD 1 0, (colr l0).2.1.getD 2 0, ((colr l0).2.2 : Int)) else none
theorem sixel_DecodeColor.calls (A0 : Option Addr) (c0 : Nat) (l0 : List Int) (r1 r2 r3 r4 r5 r6 : Int) (w : World) (hr0 : Kd.C (Kd.int .u8) w A0 l0.length l0) (_hc0 : l0.length ≤ c0) (h : sixel_DecodeColor.f l0 = some (r1, r2, r3, r4, r5, r6)) :
    Calls Tryd.prog 27 #[.slice A0 l0.length c0] w fun e w' => e = .returned (.tuple #[.agg #[.int .i64 r1, .int .i64 r2, .int .i64 r3, .int .i64 r4, .int .i64 r5], .int .i64 r6]) ∧ Below w.heap.size w w' := by
  unfold sixel_DecodeColor.f at h
  split at h
  · rename_i hl
    simp only [Option.some.injEq, Prod.mk.injEq] at h
    obtain ⟨rfl, rfl, rfl, rfl, rfl, rfl⟩ := h
    by_cases h0 : l0.length < 2
    · have hr : colr l0 = ([0, 0], [0, 0, 0], 0) := by unfold colr; rw [if_pos (Or.inl h0)]
      rw [hr]
      by_cases h2 : l0.length = 0
      · obtain rfl : l0 = [] := List.length_eq_zero_iff.1 h2
        exact color_nil A0 c0 w
      · obtain ⟨ad, rfl, hc⟩ := row_some hr0 (by omega)
        have h3 : l0.length = 1 := by omega
        rw [h3]
        exact color_one ad c0 _ w (by have := hc 0 (by omega); simpa [Addr.add] using this)
    · obtain ⟨ad, rfl, hc⟩ := row_some hr0 (by omega)
      by_cases h1 : l0.getD 0 0 = 35
      · have hr : colr l0 = ((nums 1 (l0.drop 1) 0 [0, 0]).1, (nums 2 (l0.drop ((nums 1 (l0.drop 1) 0 [0, 0]).2 + 1)) 0 [0, 0, 0]).1, (nums 2 (l0.drop ((nums 1 (l0.drop 1) 0 [0, 0]).2 + 1)) 0 [0, 0, 0]).2 + ((nums 1 (l0.drop 1) 0 [0, 0]).2 + 1)) := by
          unfold colr
          rw [if_neg (by omega)]
        rw [hr]
        exact color_walk ad c0 l0 w hc hl (by omega) h1 ((nums 1 (l0.drop 1) 0 [0, 0]).1, (nums 1 (l0.drop 1) 0 [0, 0]).2 + 1) ((nums 2 (l0.drop ((nums 1 (l0.drop 1) 0 [0, 0]).2 + 1)) 0 [0, 0, 0]).1, (nums 2 (l0.drop ((nums 1 (l0.drop 1) 0 [0, 0]).2 + 1)) 0 [0, 0, 0]).2 + ((nums 1 (l0.drop 1) 0 [0, 0]).2 + 1)) ⟨rfl, rfl⟩ ⟨rfl, rfl⟩
      · have hr : colr l0 = ([0, 0], [0, 0, 0], 0) := by unfold colr; rw [if_pos (Or.inr h1)]
        rw [hr]
        exact color_not ad c0 l0 w (by omega) (by have := hc 0 (by omega); simpa [Addr.add] using this) h1
  · cases h

end Go.Proofs.YtjicpadeplminaaDoor.Or
