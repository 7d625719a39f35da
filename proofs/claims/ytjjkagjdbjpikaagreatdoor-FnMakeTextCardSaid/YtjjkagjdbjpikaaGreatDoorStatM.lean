/- What the reference's MadeStatus makes of a status that clears, by hand. -/
import Derived.Test.YtjjkagjdbjpikaaGreatDoorStatW
import Derived.LoopN
namespace Go.Proofs.YtjjkagjdbjpikaaGreatDoor.Or
set_option linter.unusedVariables false
set_option linter.unusedSimpArgs false
open Go Go.RowKit Go.Proofs.YtjjkagjdbjpikaaGreatDoorW.PrintWords Go.Proofs.YtjjkagjdbjpikaaGreatDoorW.PrintLast Go.Proofs.YtjjkagjdbjpikaaGreatDoorW.PrintMore Go.Proofs.YtjjkagjdbjpikaaGreatDoor.PV

theorem cellS {w : World} {b : Nat} {cs : Array Value} {t : TypeId} (h : w.heap[b]? = some (.cells cs t (0, 0))) (j : Nat) (v : Value) (hj : cs[j]? = some v) : w.cell? ⟨b, j, none⟩ = some v := by simp [World.cell?, h, hj]
theorem statT_none (s : ByteArray) (hne : s.toList = []) : (⟨#[27, 93, 55, 53, 48, 49, 59, 115, 116, 97, 116, 101, 61]⟩ : ByteArray) ++ ⟨#[99, 108, 101, 97, 114]⟩ ++ ⟨#[7]⟩ = statT s := by
  unfold statT stateT clearT
  rw [if_pos hne]
  rfl
theorem statT_some (s : ByteArray) (hne : ¬ s.toList = []) : (⟨#[27, 93, 55, 53, 48, 49, 59, 115, 116, 97, 116, 101, 61]⟩ : ByteArray) ++ ⟨#[99, 108, 101, 97, 114]⟩ ++ (⟨#[58, 105, 100, 61]⟩ ++ s) ++ ⟨#[7]⟩ = statT s := by
  unfold statT stateT clearT
  rw [if_neg hne]
  apply ByteArray.ext
  apply Array.toList_inj.1
  simp [ByteArray.data_append]

set_option maxHeartbeats 16000000 in
set_option maxRecDepth 100000 in
theorem ms_none (s : ByteArray) (w : World) (hne : s.toList = []) :
    Calls Tryz.prog 28 #[.agg #[.string ⟨#[99, 108, 101, 97, 114]⟩, .string s, .string ⟨#[]⟩, .string ⟨#[]⟩, .int .i64 0, .bool false, .string ⟨#[]⟩, .string ⟨#[]⟩]] w fun e w' => e = .returned (.string (statT s)) ∧ Below w.heap.size w w' := by
  rw [← statT_none s hne]
  go_enter Tryz.func28, Tryz.ntmps28
  go_wp2_with fail
  obtain ⟨W1, hW1⟩ : ∃ W, W = w.alloc (.cells #[.string ⟨#[99, 108, 101, 97, 114]⟩, .string s, .string ⟨#[]⟩, .string ⟨#[]⟩, .int .i64 0, .bool false, .string ⟨#[]⟩, .string ⟨#[]⟩] 42) := ⟨_, rfl⟩
  have hs1 : W1.heap.size = w.heap.size + 1 := by rw [hW1]; simp
  have hbk := heap_alloc_new w (.cells #[.string ⟨#[99, 108, 101, 97, 114]⟩, .string s, .string ⟨#[]⟩, .string ⟨#[]⟩, .int .i64 0, .bool false, .string ⟨#[]⟩, .string ⟨#[]⟩] 42)
  have hB1 : Below w.heap.size w W1 := by rw [hW1]; exact (Below.refl _ w).alloc (Nat.le_refl _) _
  rw [← hW1] at hbk ⊢
  have hlk := heap_alloc_new W1 (.cells #[.string ⟨#[105, 100, 108, 101]⟩, .string ⟨#[119, 111, 114, 107, 105, 110, 103]⟩, .string ⟨#[100, 111, 110, 101]⟩, .string ⟨#[98, 108, 111, 99, 107, 101, 100]⟩, .string ⟨#[101, 114, 114, 111, 114]⟩, .string ⟨#[99, 108, 101, 97, 114]⟩] 9)
  have hb2 : Below W1.heap.size W1 (W1.alloc (.cells #[.string ⟨#[105, 100, 108, 101]⟩, .string ⟨#[119, 111, 114, 107, 105, 110, 103]⟩, .string ⟨#[100, 111, 110, 101]⟩, .string ⟨#[98, 108, 111, 99, 107, 101, 100]⟩, .string ⟨#[101, 114, 114, 111, 114]⟩, .string ⟨#[99, 108, 101, 97, 114]⟩] 9)) := (Below.refl _ W1).alloc (Nat.le_refl _) _
  obtain ⟨W2, hW2⟩ : ∃ W, W = W1.alloc (.cells #[.string ⟨#[105, 100, 108, 101]⟩, .string ⟨#[119, 111, 114, 107, 105, 110, 103]⟩, .string ⟨#[100, 111, 110, 101]⟩, .string ⟨#[98, 108, 111, 99, 107, 101, 100]⟩, .string ⟨#[101, 114, 114, 111, 114]⟩, .string ⟨#[99, 108, 101, 97, 114]⟩] 9) := ⟨_, rfl⟩
  rw [← hW2] at hlk hb2 ⊢
  rw [hs1] at hlk
  have hbk2 := (hb2.block w.heap.size (by omega)).trans hbk
  have HB2 : Hid (Below w.heap.size w W2) := Lib.hid (hB1.trans (hb2.mono (by omega)))
  have HBK := Lib.hid hbk2
  have g0 := cellS hbk2 0 (.string ⟨#[99, 108, 101, 97, 114]⟩) rfl
  have g1 := cellS hbk2 1 (.string s) rfl
  have l0 := cellS hlk 0 (.string ⟨#[105, 100, 108, 101]⟩) rfl
  have l1 := cellS hlk 1 (.string ⟨#[119, 111, 114, 107, 105, 110, 103]⟩) rfl
  have l2 := cellS hlk 2 (.string ⟨#[100, 111, 110, 101]⟩) rfl
  have l3 := cellS hlk 3 (.string ⟨#[98, 108, 111, 99, 107, 101, 100]⟩) rfl
  have l4 := cellS hlk 4 (.string ⟨#[101, 114, 114, 111, 114]⟩) rfl
  have l5 := cellS hlk 5 (.string ⟨#[99, 108, 101, 97, 114]⟩) rfl
  clear hW2 hW1 hb2 hbk hbk2 hlk hB1 hs1
  refine wp_loop_rounds 7 ?_
  rw [rounds_succ]
  go_wp2_with fail
  rw [rounds_succ]
  go_wp2_with fail
  rw [rounds_succ]
  go_wp2_with fail
  rw [rounds_succ]
  go_wp2_with fail
  rw [rounds_succ]
  go_wp2_with fail
  rw [rounds_succ]
  go_wp2_with fail
  rw [rounds_succ]
  go_wp2_with fail
  go_ret
  exact ⟨rfl, HB2.out⟩

set_option maxHeartbeats 16000000 in
set_option maxRecDepth 100000 in
theorem ms_true (s : ByteArray) (w : World) (hs : s.size ≤ 1000000) (hne : ¬ s.toList = []) (k : Nat) (hv : spec_isStatusID.f k s = some true) :
    Calls Tryz.prog 28 #[.agg #[.string ⟨#[99, 108, 101, 97, 114]⟩, .string s, .string ⟨#[]⟩, .string ⟨#[]⟩, .int .i64 0, .bool false, .string ⟨#[]⟩, .string ⟨#[]⟩]] w fun e w' => e = .returned (.string (statT s)) ∧ Below w.heap.size w w' := by
  have t3 : s.toList.isEmpty = false := by cases h : s.toList with
    | nil => exact absurd h hne
    | cons a t => rfl
  have HV := Lib.hid hv
  clear hv
  rw [← statT_some s hne]
  go_enter Tryz.func28, Tryz.ntmps28
  go_wp2_with fail
  obtain ⟨W1, hW1⟩ : ∃ W, W = w.alloc (.cells #[.string ⟨#[99, 108, 101, 97, 114]⟩, .string s, .string ⟨#[]⟩, .string ⟨#[]⟩, .int .i64 0, .bool false, .string ⟨#[]⟩, .string ⟨#[]⟩] 42) := ⟨_, rfl⟩
  have hs1 : W1.heap.size = w.heap.size + 1 := by rw [hW1]; simp
  have hbk := heap_alloc_new w (.cells #[.string ⟨#[99, 108, 101, 97, 114]⟩, .string s, .string ⟨#[]⟩, .string ⟨#[]⟩, .int .i64 0, .bool false, .string ⟨#[]⟩, .string ⟨#[]⟩] 42)
  have hB1 : Below w.heap.size w W1 := by rw [hW1]; exact (Below.refl _ w).alloc (Nat.le_refl _) _
  rw [← hW1] at hbk ⊢
  have hlk := heap_alloc_new W1 (.cells #[.string ⟨#[105, 100, 108, 101]⟩, .string ⟨#[119, 111, 114, 107, 105, 110, 103]⟩, .string ⟨#[100, 111, 110, 101]⟩, .string ⟨#[98, 108, 111, 99, 107, 101, 100]⟩, .string ⟨#[101, 114, 114, 111, 114]⟩, .string ⟨#[99, 108, 101, 97, 114]⟩] 9)
  have hb2 : Below W1.heap.size W1 (W1.alloc (.cells #[.string ⟨#[105, 100, 108, 101]⟩, .string ⟨#[119, 111, 114, 107, 105, 110, 103]⟩, .string ⟨#[100, 111, 110, 101]⟩, .string ⟨#[98, 108, 111, 99, 107, 101, 100]⟩, .string ⟨#[101, 114, 114, 111, 114]⟩, .string ⟨#[99, 108, 101, 97, 114]⟩] 9)) := (Below.refl _ W1).alloc (Nat.le_refl _) _
  obtain ⟨W2, hW2⟩ : ∃ W, W = W1.alloc (.cells #[.string ⟨#[105, 100, 108, 101]⟩, .string ⟨#[119, 111, 114, 107, 105, 110, 103]⟩, .string ⟨#[100, 111, 110, 101]⟩, .string ⟨#[98, 108, 111, 99, 107, 101, 100]⟩, .string ⟨#[101, 114, 114, 111, 114]⟩, .string ⟨#[99, 108, 101, 97, 114]⟩] 9) := ⟨_, rfl⟩
  rw [← hW2] at hlk hb2 ⊢
  rw [hs1] at hlk
  have hbk2 := (hb2.block w.heap.size (by omega)).trans hbk
  have HB2 : Hid (Below w.heap.size w W2) := Lib.hid (hB1.trans (hb2.mono (by omega)))
  have HBK := Lib.hid hbk2
  have g0 := cellS hbk2 0 (.string ⟨#[99, 108, 101, 97, 114]⟩) rfl
  have g1 := cellS hbk2 1 (.string s) rfl
  have l0 := cellS hlk 0 (.string ⟨#[105, 100, 108, 101]⟩) rfl
  have l1 := cellS hlk 1 (.string ⟨#[119, 111, 114, 107, 105, 110, 103]⟩) rfl
  have l2 := cellS hlk 2 (.string ⟨#[100, 111, 110, 101]⟩) rfl
  have l3 := cellS hlk 3 (.string ⟨#[98, 108, 111, 99, 107, 101, 100]⟩) rfl
  have l4 := cellS hlk 4 (.string ⟨#[101, 114, 114, 111, 114]⟩) rfl
  have l5 := cellS hlk 5 (.string ⟨#[99, 108, 101, 97, 114]⟩) rfl
  clear hW2 hW1 hb2 hbk hbk2 hlk hB1 hs1
  refine wp_loop_rounds 7 ?_
  rw [rounds_succ]
  go_wp2_with fail
  rw [rounds_succ]
  go_wp2_with fail
  rw [rounds_succ]
  go_wp2_with fail
  rw [rounds_succ]
  go_wp2_with fail
  rw [rounds_succ]
  go_wp2_with fail
  rw [rounds_succ]
  go_wp2_with fail
  rw [rounds_succ]
  go_wp2_with fail
  refine (spec_isStatusID.calls k s true _ HV.out).mono ?_
  rintro e w3 ⟨rfl, hd⟩
  have hbk3 := (hd.below.block w.heap.size (lt_of_block HBK.out)).trans HBK.out
  have g0' := cellS hbk3 0 (.string ⟨#[99, 108, 101, 97, 114]⟩) rfl
  have g1' := cellS hbk3 1 (.string s) rfl
  have HB3 : Hid (Below w.heap.size w w3) := Lib.hid (HB2.out.trans (hd.below.mono HB2.out.size))
  clear hbk3 hd
  go_wp2
  go_ret
  exact ⟨rfl, HB3.out⟩

set_option maxHeartbeats 16000000 in
set_option maxRecDepth 100000 in
theorem ms_false (s : ByteArray) (w : World) (hs : s.size ≤ 1000000) (hne : ¬ s.toList = []) (k : Nat) (hv : spec_isStatusID.f k s = some false) :
    Calls Tryz.prog 28 #[.agg #[.string ⟨#[99, 108, 101, 97, 114]⟩, .string s, .string ⟨#[]⟩, .string ⟨#[]⟩, .int .i64 0, .bool false, .string ⟨#[]⟩, .string ⟨#[]⟩]] w fun e w' => e = .returned (.string ⟨#[]⟩) ∧ Below w.heap.size w w' := by
  have t3 : s.toList.isEmpty = false := by cases h : s.toList with
    | nil => exact absurd h hne
    | cons a t => rfl
  have HV := Lib.hid hv
  clear hv
  go_enter Tryz.func28, Tryz.ntmps28
  go_wp2_with fail
  obtain ⟨W1, hW1⟩ : ∃ W, W = w.alloc (.cells #[.string ⟨#[99, 108, 101, 97, 114]⟩, .string s, .string ⟨#[]⟩, .string ⟨#[]⟩, .int .i64 0, .bool false, .string ⟨#[]⟩, .string ⟨#[]⟩] 42) := ⟨_, rfl⟩
  have hs1 : W1.heap.size = w.heap.size + 1 := by rw [hW1]; simp
  have hbk := heap_alloc_new w (.cells #[.string ⟨#[99, 108, 101, 97, 114]⟩, .string s, .string ⟨#[]⟩, .string ⟨#[]⟩, .int .i64 0, .bool false, .string ⟨#[]⟩, .string ⟨#[]⟩] 42)
  have hB1 : Below w.heap.size w W1 := by rw [hW1]; exact (Below.refl _ w).alloc (Nat.le_refl _) _
  rw [← hW1] at hbk ⊢
  have hlk := heap_alloc_new W1 (.cells #[.string ⟨#[105, 100, 108, 101]⟩, .string ⟨#[119, 111, 114, 107, 105, 110, 103]⟩, .string ⟨#[100, 111, 110, 101]⟩, .string ⟨#[98, 108, 111, 99, 107, 101, 100]⟩, .string ⟨#[101, 114, 114, 111, 114]⟩, .string ⟨#[99, 108, 101, 97, 114]⟩] 9)
  have hb2 : Below W1.heap.size W1 (W1.alloc (.cells #[.string ⟨#[105, 100, 108, 101]⟩, .string ⟨#[119, 111, 114, 107, 105, 110, 103]⟩, .string ⟨#[100, 111, 110, 101]⟩, .string ⟨#[98, 108, 111, 99, 107, 101, 100]⟩, .string ⟨#[101, 114, 114, 111, 114]⟩, .string ⟨#[99, 108, 101, 97, 114]⟩] 9)) := (Below.refl _ W1).alloc (Nat.le_refl _) _
  obtain ⟨W2, hW2⟩ : ∃ W, W = W1.alloc (.cells #[.string ⟨#[105, 100, 108, 101]⟩, .string ⟨#[119, 111, 114, 107, 105, 110, 103]⟩, .string ⟨#[100, 111, 110, 101]⟩, .string ⟨#[98, 108, 111, 99, 107, 101, 100]⟩, .string ⟨#[101, 114, 114, 111, 114]⟩, .string ⟨#[99, 108, 101, 97, 114]⟩] 9) := ⟨_, rfl⟩
  rw [← hW2] at hlk hb2 ⊢
  rw [hs1] at hlk
  have hbk2 := (hb2.block w.heap.size (by omega)).trans hbk
  have HB2 : Hid (Below w.heap.size w W2) := Lib.hid (hB1.trans (hb2.mono (by omega)))
  have HBK := Lib.hid hbk2
  have g0 := cellS hbk2 0 (.string ⟨#[99, 108, 101, 97, 114]⟩) rfl
  have g1 := cellS hbk2 1 (.string s) rfl
  have l0 := cellS hlk 0 (.string ⟨#[105, 100, 108, 101]⟩) rfl
  have l1 := cellS hlk 1 (.string ⟨#[119, 111, 114, 107, 105, 110, 103]⟩) rfl
  have l2 := cellS hlk 2 (.string ⟨#[100, 111, 110, 101]⟩) rfl
  have l3 := cellS hlk 3 (.string ⟨#[98, 108, 111, 99, 107, 101, 100]⟩) rfl
  have l4 := cellS hlk 4 (.string ⟨#[101, 114, 114, 111, 114]⟩) rfl
  have l5 := cellS hlk 5 (.string ⟨#[99, 108, 101, 97, 114]⟩) rfl
  clear hW2 hW1 hb2 hbk hbk2 hlk hB1 hs1
  refine wp_loop_rounds 7 ?_
  rw [rounds_succ]
  go_wp2_with fail
  rw [rounds_succ]
  go_wp2_with fail
  rw [rounds_succ]
  go_wp2_with fail
  rw [rounds_succ]
  go_wp2_with fail
  rw [rounds_succ]
  go_wp2_with fail
  rw [rounds_succ]
  go_wp2_with fail
  rw [rounds_succ]
  go_wp2_with fail
  refine (spec_isStatusID.calls k s false _ HV.out).mono ?_
  rintro e w3 ⟨rfl, hd⟩
  have HB3 : Hid (Below w.heap.size w w3) := Lib.hid (HB2.out.trans (hd.below.mono HB2.out.size))
  clear hd
  go_wp2
  go_ret
  exact ⟨rfl, HB3.out⟩
end Go.Proofs.YtjjkagjdbjpikaaGreatDoor.Or
