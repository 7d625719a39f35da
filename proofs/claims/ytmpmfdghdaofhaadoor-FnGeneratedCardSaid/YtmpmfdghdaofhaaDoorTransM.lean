/- The walk of the law FnTransition, by hand. -/
import Derived.Test.YtmpmfdghdaofhaaDoorTransL
namespace Go.Proofs.YtmpmfdghdaofhaaDoor.Ma
set_option linter.unusedVariables false
set_option linter.unusedSimpArgs false
open Go Go.RowKit Go.Proofs.YtmpmfdghdaofhaaDoorW.PrintWords Go.Proofs.YtmpmfdghdaofhaaDoorW.PrintLast Go.Proofs.YtmpmfdghdaofhaaDoorW.PrintMore

theorem nx_wrap (st c : Int) : wrap64 (nx st c) = nx st c := by
  have key : ∀ b : Fin 256, wrap64 (Go.bits .and .u8 ((b.val : Nat) : Int) 15) = Go.bits .and .u8 ((b.val : Nat) : Int) 15 := by decide +kernel
  exact key ⟨_, UInt8.toNat_lt (zz.data.toList.getD (st * 256 + c).toNat 0)⟩
theorem ac_wrap (st c : Int) : wrap64 (ac st c) = ac st c := by
  have key : ∀ b : Fin 256, wrap64 (((b.val : Nat) : Int) / 16) = ((b.val : Nat) : Int) / 16 := by decide +kernel
  exact key ⟨_, UInt8.toNat_lt (zz.data.toList.getD (st * 256 + c).toNat 0)⟩

set_option maxHeartbeats 8000000 in
set_option maxRecDepth 100000 in
theorem itrans (st c : Int) (h0 : 0 ≤ st) (h1 : st < 15) (h2 : 0 ≤ c) (h3 : c < 256) (w : World) :
    Calls Tryd.prog 7 #[.int .i64 st, .int .i64 c] w fun e w' => e = .returned (.tuple #[.int .i64 (nx st c), .int .i64 (ac st c)]) ∧ Below w.heap.size w w' := by
  have t1 : decide (st < 0) = false := decide_eq_false (by omega)
  have t2 : decide (14 < st) = false := decide_eq_false (by omega)
  have t3 : decide (c < 0) = false := decide_eq_false (by omega)
  have t4 : decide (255 < c) = false := decide_eq_false (by omega)
  have m1 : st % 256 = st := by omega
  have m2 : c % 256 = c := by omega
  have H := Aside0.mk (show ∀ w, Calls Tryd.prog 19 #[.agg #[], .int .u8 st, .int .u8 c] w fun e w' => e = .returned (.tuple #[.int .u8 (nx st c), .int .u8 (ac st c)]) ∧ Below w.heap.size w w' from fun w => trans st c h0 (by omega) h2 h3 w)
  clear h0 h1 h2 h3
  have y1 := nx_wrap st c
  have y2 := ac_wrap st c
  go_enter Tryd.func7, Tryd.ntmps7
  go_wp2_with fail
  refine (table _).mono ?_
  rintro e w1 ⟨rfl, hb1⟩
  go_wp2_with fail
  refine (H.out _).mono ?_
  rintro e w2 ⟨rfl, hb2⟩
  go_wp2
  go_ret2
  exact ⟨by rw [y1, y2]; rfl, below_step hb1 hb2⟩

set_option maxHeartbeats 8000000 in
set_option maxRecDepth 100000 in
theorem walkT (a0 a1 : Int) (w : World) (w0 : (Lit.int .u8 a0).wf = true) (w1 : (Lit.int .u8 a1).wf = true) :
    Calls Tryd.prog 3 #[.int .u8 a0, .int .u8 a1] w fun e w' => e = .returned (.bool true) ∧ Below w.heap.size w w' := by
  have m0 : IntKind.u8.min = 0 := rfl
  have m1 : IntKind.u8.max = 255 := rfl
  have b0 : 0 ≤ a0 ∧ a0 < 256 := by simp [Lit.wf, m0, m1] at w0; omega
  have b1 : 0 ≤ a1 ∧ a1 < 256 := by simp [Lit.wf, m0, m1] at w1; omega
  clear m0 m1
  clear w0 w1
  have e1 : wrap64 (a0.tmod 15) = a0 % 15 := by
    rw [Int.tmod_eq_emod_of_nonneg b0.1]
    unfold wrap64
    omega
  have e2 : wrap64 a1 = a1 := by
    unfold wrap64
    omega
  obtain ⟨n, a, h1, h2⟩ : ∃ n a : Int, (∀ w, Calls Tryd.prog 7 #[.int .i64 (wrap64 (a0.tmod 15)), .int .i64 (wrap64 a1)] w fun e w' => e = .returned (.tuple #[.int .i64 n, .int .i64 a]) ∧ Below w.heap.size w w') ∧ (∀ w, Calls Tryd.prog 8 #[.int .i64 (wrap64 (a0.tmod 15)), .int .u8 a1] w fun e w' => e = .returned (.tuple #[.int .i64 n, .int .i64 a]) ∧ Drawn0 w w') := by
    rw [e1, e2]
    exact ⟨_, _, itrans (a0 % 15) a1 (by omega) (by omega) b1.1 b1.2, fun w => PK.spec_Transition.calls 40 (a0 % 15) a1 _ _ w (spec_is (a0 % 15) a1 (by omega) (by omega) b1.1 b1.2)⟩
  have H1 := Aside0.mk h1
  have H2 := Aside0.mk h2
  clear b0 b1 e1 e2 h1 h2
  go_enter Tryd.func3, Tryd.ntmps3
  go_wp2_with fail
  refine (H1.out _).mono ?_
  rintro e w1 ⟨rfl, hb1⟩
  go_wp2_with fail
  refine (H2.out _).mono ?_
  rintro e w2 ⟨rfl, hb2⟩
  go_wp2_with fail
  refine (awake_ _).mono ?_
  rintro e w3 ⟨rfl, hb3⟩
  go_wp2
  go_ret
  exact ⟨rfl, below_step (hb1.trans (by obtain ⟨q, rfl⟩ := hb2.out; exact ⟨rfl, rfl, rfl, Nat.le_refl _, fun _ _ => rfl⟩)) hb3⟩

end Go.Proofs.YtmpmfdghdaofhaaDoor.Ma
