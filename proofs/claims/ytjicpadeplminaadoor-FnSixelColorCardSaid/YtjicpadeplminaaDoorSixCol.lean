/- spec.SixelColor, walked by hand (it slices an array, which no print covers), and its contract for the printed walks. -/
import Derived.Test.YtjicpadeplminaaDoorPCx1
import Derived.Test.YtjicpadeplminaaDoorSixNumC
import Derived.Handy
namespace Go.Proofs.YtjicpadeplminaaDoor.Col
open Go Go.RowKit Go.Proofs.YtjicpadeplminaaDoor.PC Go.Proofs.YtjicpadeplminaaDoor.Bld Go.Proofs.YtjicpadeplminaaDoor.SixNum Go.Proofs.YtjicpadeplminaaDoorW.PrintWords Go.Proofs.YtjicpadeplminaaDoorW.PrintLast

theorem numC (n : Int) (h : In n) (w : World) : Calls Tryd.prog 10 #[.int .i64 n] w fun e w' => e = .returned (.string (digs n)) ∧ Below w.heap.size w w' :=
  spec_SixelNumber.calls 1000 n _ w (number n h.1 h.2)

def scolT (n m p q r : Int) : ByteArray := if m = 1 ∨ m = 2 then (((((⟨#[35]⟩ : ByteArray) ++ digs n) ++ ((⟨#[59]⟩ : ByteArray) ++ digs m)) ++ ((⟨#[59]⟩ : ByteArray) ++ digs p)) ++ ((⟨#[59]⟩ : ByteArray) ++ digs q)) ++ ((⟨#[59]⟩ : ByteArray) ++ digs r) else (⟨#[35]⟩ : ByteArray) ++ digs n

structure Five (w : World) (b : Nat) (n m p q r : Int) : Prop where
  h0 : w.cell? ⟨b, 0, none⟩ = some (.int .i64 n)
  h1 : w.cell? ⟨b, 1, none⟩ = some (.int .i64 m)
  h2 : w.cell? ⟨b, 2, none⟩ = some (.int .i64 p)
  h3 : w.cell? ⟨b, 3, none⟩ = some (.int .i64 q)
  h4 : w.cell? ⟨b, 4, none⟩ = some (.int .i64 r)

theorem five_new (w : World) (t : TypeId) (n m p q r : Int) : Five (w.alloc (.cells #[.int .i64 n, .int .i64 m, .int .i64 p, .int .i64 q, .int .i64 r] t)) w.heap.size n m p q r := by
  have hk : (w.alloc (.cells #[.int .i64 n, .int .i64 m, .int .i64 p, .int .i64 q, .int .i64 r] t)).heap[w.heap.size]? = some (.cells #[.int .i64 n, .int .i64 m, .int .i64 p, .int .i64 q, .int .i64 r] t) := by
    show (w.heap.push _)[w.heap.size]? = _
    exact Array.getElem?_push_size
  exact ⟨by unfold World.cell?; rw [hk]; rfl, by unfold World.cell?; rw [hk]; rfl, by unfold World.cell?; rw [hk]; rfl, by unfold World.cell?; rw [hk]; rfl, by unfold World.cell?; rw [hk]; rfl⟩

theorem Five.below {w w' : World} {b : Nat} {n m p q r : Int} (h : Five w b n m p q r) (hb : Below w.heap.size w w') : Five w' b n m p q r :=
  ⟨(hb.cell (World.block_lt_of_cell? w _ h.h0)).trans h.h0, (hb.cell (World.block_lt_of_cell? w _ h.h1)).trans h.h1, (hb.cell (World.block_lt_of_cell? w _ h.h2)).trans h.h2, (hb.cell (World.block_lt_of_cell? w _ h.h3)).trans h.h3, (hb.cell (World.block_lt_of_cell? w _ h.h4)).trans h.h4⟩

theorem below_five {w w1 w2 : World} (h : Below w.heap.size w w1) (h2 : Below w1.heap.size w1 w2) : Below w.heap.size w w2 := h.trans (h2.mono (below_size h))

set_option maxHeartbeats 8000000 in
set_option maxRecDepth 100000 in
theorem scolor (n m p q r : Int) (i_n : In n) (i_m : In m) (i_p : In p) (i_q : In q) (i_r : In r) (w : World) :
    Calls Tryd.prog 8 #[.agg #[.int .i64 n, .int .i64 m, .int .i64 p, .int .i64 q, .int .i64 r]] w fun e w' => e = .returned (.string (scolT n m p q r)) ∧ Below w.heap.size w w' := by
  have F0 := Lib.hid (five_new w 26 n m p q r)
  have HB := Lib.hid ((Below.refl w.heap.size w).alloc (Nat.le_refl _) (.cells #[.int .i64 n, .int .i64 m, .int .i64 p, .int .i64 q, .int .i64 r] 26))
  have ia0 : ∀ (b_ : Nat) (w_ : World), (Instr.indexAt 26 (.pointer (some ⟨b_, 0, none⟩)) (.int .i64 0)).run Tryd.prog w_ = .ok (.pointer (some ⟨b_, 0, none⟩)) w_ := fun b_ w_ => by kernel_rfl
  have ia1 : ∀ (b_ : Nat) (w_ : World), (Instr.indexAt 26 (.pointer (some ⟨b_, 0, none⟩)) (.int .i64 1)).run Tryd.prog w_ = .ok (.pointer (some ⟨b_, 1, none⟩)) w_ := fun b_ w_ => by kernel_rfl
  have z0 := digs_size n i_n.1 i_n.2
  have z1 := digs_size m i_m.1 i_m.2
  have z2 := digs_size p i_p.1 i_p.2
  have z3 := digs_size q i_q.1 i_q.2
  have z4 := digs_size r i_r.1 i_r.2
  have l0 : (9223372036854775807 < 1 + (digs n).size) = False := eq_false (by omega)
  have l1 : (9223372036854775807 < 1 + (digs m).size) = False := eq_false (by omega)
  have l2 : (9223372036854775807 < 1 + (digs p).size) = False := eq_false (by omega)
  have l3 : (9223372036854775807 < 1 + (digs q).size) = False := eq_false (by omega)
  have l4 : (9223372036854775807 < 1 + (digs r).size) = False := eq_false (by omega)
  have k0 : decide (1 + (digs n).size ≤ 9223372036854775807) = true := decide_eq_true (by omega)
  have k1 : decide (1 + (digs m).size ≤ 9223372036854775807) = true := decide_eq_true (by omega)
  have k2 : decide (1 + (digs p).size ≤ 9223372036854775807) = true := decide_eq_true (by omega)
  have k3 : decide (1 + (digs q).size ≤ 9223372036854775807) = true := decide_eq_true (by omega)
  have k4 : decide (1 + (digs r).size ≤ 9223372036854775807) = true := decide_eq_true (by omega)
  by_cases hm : m = 1 ∨ m = 2
  · rw [show scolT n m p q r = _ from if_pos hm]
    have s0 : (9223372036854775807 < 1 + (digs n).size + (1 + (digs m).size)) = False := eq_false (by omega)
    have d0 : decide (1 + (digs n).size + (1 + (digs m).size) ≤ 9223372036854775807) = true := decide_eq_true (by omega)
    have s1 : (9223372036854775807 < 1 + (digs n).size + (1 + (digs m).size) + (1 + (digs p).size)) = False := eq_false (by omega)
    have d1 : decide (1 + (digs n).size + (1 + (digs m).size) + (1 + (digs p).size) ≤ 9223372036854775807) = true := decide_eq_true (by omega)
    have s2 : (9223372036854775807 < 1 + (digs n).size + (1 + (digs m).size) + (1 + (digs p).size) + (1 + (digs q).size)) = False := eq_false (by omega)
    have d2 : decide (1 + (digs n).size + (1 + (digs m).size) + (1 + (digs p).size) + (1 + (digs q).size) ≤ 9223372036854775807) = true := decide_eq_true (by omega)
    have s3 : (9223372036854775807 < 1 + (digs n).size + (1 + (digs m).size) + (1 + (digs p).size) + (1 + (digs q).size) + (1 + (digs r).size)) = False := eq_false (by omega)
    have d3 : decide (1 + (digs n).size + (1 + (digs m).size) + (1 + (digs p).size) + (1 + (digs q).size) + (1 + (digs r).size) ≤ 9223372036854775807) = true := decide_eq_true (by omega)
    rcases hm with rfl | rfl
    · go_enter Tryd.func8, Tryd.ntmps8
      go_wp2_with (go_at_call 10; refine (numC _ i_n _).mono ?_; rintro e w1 ⟨rfl, hb⟩; have F1 := Lib.hid (F0.out.below hb); have HB1 := Lib.hid (below_five HB.out hb); have f0 := F1.out.h0; have f1 := F1.out.h1; have f2 := F1.out.h2; have f3 := F1.out.h3; have f4 := F1.out.h4; clear hb)
      refine wp_loop_rounds 5 ?_
      rw [rounds_succ]
      go_wp2_with (go_at_call 10; refine (numC _ i_m _).mono ?_; rintro e w1 ⟨rfl, hb⟩; have F1 := Lib.hid (F1.out.below hb); have HB1 := Lib.hid (below_five HB1.out hb); have f0 := F1.out.h0; have f1 := F1.out.h1; have f2 := F1.out.h2; have f3 := F1.out.h3; have f4 := F1.out.h4; clear hb)
      rw [rounds_succ]
      go_wp2_with (go_at_call 10; refine (numC _ i_p _).mono ?_; rintro e w1 ⟨rfl, hb⟩; have F1 := Lib.hid (F1.out.below hb); have HB1 := Lib.hid (below_five HB1.out hb); have f0 := F1.out.h0; have f1 := F1.out.h1; have f2 := F1.out.h2; have f3 := F1.out.h3; have f4 := F1.out.h4; clear hb)
      rw [rounds_succ]
      go_wp2_with (go_at_call 10; refine (numC _ i_q _).mono ?_; rintro e w1 ⟨rfl, hb⟩; have F1 := Lib.hid (F1.out.below hb); have HB1 := Lib.hid (below_five HB1.out hb); have f0 := F1.out.h0; have f1 := F1.out.h1; have f2 := F1.out.h2; have f3 := F1.out.h3; have f4 := F1.out.h4; clear hb)
      rw [rounds_succ]
      go_wp2_with (go_at_call 10; refine (numC _ i_r _).mono ?_; rintro e w1 ⟨rfl, hb⟩; have F1 := Lib.hid (F1.out.below hb); have HB1 := Lib.hid (below_five HB1.out hb); have f0 := F1.out.h0; have f1 := F1.out.h1; have f2 := F1.out.h2; have f3 := F1.out.h3; have f4 := F1.out.h4; clear hb)
      rw [rounds_succ]
      go_wp2
      go_ret
      exact ⟨rfl, HB1.out⟩
    · go_enter Tryd.func8, Tryd.ntmps8
      go_wp2_with (go_at_call 10; refine (numC _ i_n _).mono ?_; rintro e w1 ⟨rfl, hb⟩; have F1 := Lib.hid (F0.out.below hb); have HB1 := Lib.hid (below_five HB.out hb); have f0 := F1.out.h0; have f1 := F1.out.h1; have f2 := F1.out.h2; have f3 := F1.out.h3; have f4 := F1.out.h4; clear hb)
      refine wp_loop_rounds 5 ?_
      rw [rounds_succ]
      go_wp2_with (go_at_call 10; refine (numC _ i_m _).mono ?_; rintro e w1 ⟨rfl, hb⟩; have F1 := Lib.hid (F1.out.below hb); have HB1 := Lib.hid (below_five HB1.out hb); have f0 := F1.out.h0; have f1 := F1.out.h1; have f2 := F1.out.h2; have f3 := F1.out.h3; have f4 := F1.out.h4; clear hb)
      rw [rounds_succ]
      go_wp2_with (go_at_call 10; refine (numC _ i_p _).mono ?_; rintro e w1 ⟨rfl, hb⟩; have F1 := Lib.hid (F1.out.below hb); have HB1 := Lib.hid (below_five HB1.out hb); have f0 := F1.out.h0; have f1 := F1.out.h1; have f2 := F1.out.h2; have f3 := F1.out.h3; have f4 := F1.out.h4; clear hb)
      rw [rounds_succ]
      go_wp2_with (go_at_call 10; refine (numC _ i_q _).mono ?_; rintro e w1 ⟨rfl, hb⟩; have F1 := Lib.hid (F1.out.below hb); have HB1 := Lib.hid (below_five HB1.out hb); have f0 := F1.out.h0; have f1 := F1.out.h1; have f2 := F1.out.h2; have f3 := F1.out.h3; have f4 := F1.out.h4; clear hb)
      rw [rounds_succ]
      go_wp2_with (go_at_call 10; refine (numC _ i_r _).mono ?_; rintro e w1 ⟨rfl, hb⟩; have F1 := Lib.hid (F1.out.below hb); have HB1 := Lib.hid (below_five HB1.out hb); have f0 := F1.out.h0; have f1 := F1.out.h1; have f2 := F1.out.h2; have f3 := F1.out.h3; have f4 := F1.out.h4; clear hb)
      rw [rounds_succ]
      go_wp2
      go_ret
      exact ⟨rfl, HB1.out⟩
  · rw [show scolT n m p q r = _ from if_neg hm]
    have e1 : (m == 1) = false := by simp; omega
    have e2 : (m == 2) = false := by simp; omega
    go_enter Tryd.func8, Tryd.ntmps8
    go_wp2_with (go_at_call 10; refine (numC _ i_n _).mono ?_; rintro e w1 ⟨rfl, hb⟩; have F1 := F0.out.below hb; have HB1 := Lib.hid (below_five HB.out hb); have f0 := F1.h0; have f1 := F1.h1; have f2 := F1.h2; have f3 := F1.h3; have f4 := F1.h4; have F1 := Lib.hid F1; clear hb)
    go_ret
    exact ⟨rfl, HB1.out⟩

def spec_SixelColor.f (n m p q r : Int) : Option ByteArray := if In n ∧ In m ∧ In p ∧ In q ∧ In r then some (scolT n m p q r) else none
theorem spec_SixelColor.calls (n m p q r : Int) (r_ : ByteArray) (w : World) (h : spec_SixelColor.f n m p q r = some r_) :
    Calls Tryd.prog 8 #[.agg #[.int .i64 n, .int .i64 m, .int .i64 p, .int .i64 q, .int .i64 r]] w fun e w' => e = .returned (.string r_) ∧ Below w.heap.size w w' := by
  unfold spec_SixelColor.f at h
  split at h
  · rename_i hr
    obtain ⟨i_n, i_m, i_p, i_q, i_r⟩ := hr
    obtain rfl := Option.some.inj h
    exact scolor n m p q r i_n i_m i_p i_q i_r w
  · cases h

end Go.Proofs.YtjicpadeplminaaDoor.Col
