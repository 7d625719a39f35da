/- The walk of readString and of ReadSequence over a system command that ends with a bell, by hand. -/
import Derived.Test.YtjjkagjdbjpikaaGreatDoorProg
import Derived.Test.YtjjkagjdbjpikaaGreatDoorWMore
import Derived.Test.YtjjkagjdbjpikaaGreatDoorWWords
import Derived.Test.YtjjkagjdbjpikaaGreatDoorWLast
import Derived.WalkKit
import Derived.KernelRfl
import Derived.Below
import Derived.Lib.Hide
import Derived.Deep.LoopGhost
import Derived.Deep.DeepCutAuto
import Derived.Deep.CutBlock
import Derived.BigQuiet
import Derived.Deep.QuietTactic
import Derived.Deep.RegionLaw
namespace Go.Proofs.YtjjkagjdbjpikaaGreatDoor.Osc
set_option linter.unusedVariables false
set_option linter.unusedSimpArgs false
open Go Go.RowKit Go.Proofs.YtjjkagjdbjpikaaGreatDoorW.PrintWords Go.Proofs.YtjjkagjdbjpikaaGreatDoorW.PrintLast

theorem cell_set {w : World} {b j : Nat} {cs : Array Value} {t : TypeId} (h : w.heap[b]? = some (.cells cs t (0, 0))) (v : Value) : (w.setCell ⟨b, j, none⟩ v).heap[b]? = some (.cells (cs.setIfInBounds j v) t (0, 0)) := by
  have hlt := lt_of_block h
  have h' : w.heap[b] = .cells cs t (0, 0) := by simpa [Array.getElem?_eq_getElem hlt] using h
  show (w.heap.modify b _)[b]? = _
  rw [Array.getElem?_eq_getElem (by simpa using hlt), Array.getElem_modify_self, h']
  rfl
theorem cell_far {w : World} {b k j : Nat} {o : Obj} (h : w.heap[k]? = some o) (hne : k ≠ b) (v : Value) : (w.setCell ⟨b, j, none⟩ v).heap[k]? = some o := (Below.heap_setCell w ⟨b, j, none⟩ v k hne).trans h
theorem cell_of {w : World} {b : Nat} {cs : Array Value} {t : TypeId} (h : w.heap[b]? = some (.cells cs t (0, 0))) (j : Nat) (v : Value) (hj : cs[j]? = some v) : w.cell? ⟨b, j, none⟩ = some v := by simp [World.cell?, h, hj]
theorem froz_of {w : World} {b : Nat} {cs : Array Value} {t : TypeId} (h : w.heap[b]? = some (.cells cs t (0, 0))) (j : Nat) : w.frozen? ⟨b, j, none⟩ = false := by simp [World.frozen?, h]
theorem cell_kept {w : World} {b j : Nat} {a : Addr} (hne : a.block ≠ b) (v : Value) : (w.setCell ⟨b, j, none⟩ v).cell? a = w.cell? a := by
  have := Below.heap_setCell w ⟨b, j, none⟩ v a.block hne
  simp [World.cell?, this]

set_option maxHeartbeats 8000000 in
set_option maxRecDepth 100000 in
theorem rstr (w : World) (B b o cap : Nat) (D : List Int) (hne : b ≠ B) (hs : w.heap[B]? = some (.cells #[.int .i64 3, .int .u8 0, .slice none 0 0, .slice none 0 0, .int .u8 0, .slice none 0 0, .bool false] 26 (0, 0)))
    (hc : ∀ k, k < D.length → w.cell? ⟨b, o + k, none⟩ = some (.int .u8 (D.getD k 0))) (h7 : w.cell? ⟨b, o + D.length, none⟩ = some (.int .u8 7)) (hl : D.length ≤ 1000000) (hcap : D.length + 1 ≤ cap)
    (hno : ∀ k, k < D.length → D.getD k 0 ≠ 27 ∧ D.getD k 0 ≠ 7) :
    Calls Tryz.prog 13 #[.slice (some ⟨b, o, none⟩) (D.length + 1) cap, .pointer (some ⟨B, 0, none⟩)] w fun e w' => e = .returned (.bool true) ∧ w' = (w.setCell ⟨B, 5, none⟩ (.slice (some ⟨b, o, none⟩) D.length cap)).setCell ⟨B, 6, none⟩ (.bool true) := by
  have e0 := cell_of hs 0 (.int .i64 3) rfl
  have e5 := cell_of hs 5 (.slice none 0 0) rfl
  have e6 := cell_of hs 6 (.bool false) rfl
  have z5 := froz_of hs 5
  have z6 := froz_of hs 6
  have HS := Lib.hid hs
  have HCC := Lib.hid hc
  have HNO := Lib.hid hno
  obtain ⟨n, hn⟩ : ∃ n, n = D.length := ⟨_, rfl⟩
  have HN := Lib.hid hn
  rw [← hn] at h7 hl hcap ⊢
  clear hs hc hno hn
  go_enter Tryz.func13, Tryz.ntmps13
  go_upto_region 7 with (fail)
  obtain ⟨W2, hW2⟩ : ∃ W2, W2 = (w.setCell ⟨B, 5, none⟩ (.slice (some ⟨b, o, none⟩) n cap)).setCell ⟨B, 6, none⟩ (.bool true) := ⟨_, rfl⟩
  have hS2 : W2.heap[B]? = some (.cells #[.int .i64 3, .int .u8 0, .slice none 0 0, .slice none 0 0, .int .u8 0, .slice (some ⟨b, o, none⟩) n cap, .bool true] 26 (0, 0)) := by
    rw [hW2]
    exact cell_set (cell_set HS.out _) _
  have HC2 : Hid (∀ k, k < n → W2.cell? ⟨b, o + k, none⟩ = some (.int .u8 (D.getD k 0))) := Lib.hid (fun k hk => by
    rw [hW2, cell_kept hne, cell_kept hne]
    exact HCC.out k (by rw [← HN.out]; exact hk))
  have g0 := cell_of hS2 0 (.int .i64 3) rfl
  have g5 := cell_of hS2 5 (.slice (some ⟨b, o, none⟩) n cap) rfl
  have HW2 := Lib.hid hW2
  rw [← hW2]
  clear hW2 hS2 e0 e5 e6 z5 z6 h7
  go_wp2_with fail
  go_loopw [67] (fun i wr => ∃ (k : Nat), i = .int .i64 k ∧ k ≤ n ∧ wr = W2) (fun i _ => n - (intOf i).toNat)
  case atStart => exact ⟨0, rfl, by omega, rfl⟩
  case round =>
    obtain ⟨k, rfl, hk, rfl⟩ := hrel
    by_cases hlt : k < n
    · have tlt : decide ((k : Int) < (n : Int)) = true := decide_eq_true (by omega)
      have hcl := HC2.out k hlt
      have hnn := HNO.out k (by rw [← HN.out]; exact hlt)
      obtain ⟨c, hcc⟩ : ∃ c, c = D.getD k 0 := ⟨_, rfl⟩
      rw [← hcc] at hcl hnn
      have t27 : decide (c = 27) = false := decide_eq_false hnn.1
      have t7 : decide (c = 7) = false := decide_eq_false hnn.2
      have n27 : ¬ c = 27 := hnn.1
      have n7 : ¬ c = 7 := hnn.2
      clear hcc hnn
      go_wp2
      go_roundw
      case rel => exact ⟨k + 1, by go_num, by omega, trivial⟩
      case measure => simp [intOf]; omega
    · have tlt : decide ((k : Int) < (n : Int)) = false := decide_eq_false (by omega)
      go_wp2
      go_ret
      exact ⟨rfl, HW2.out⟩

set_option maxHeartbeats 8000000 in
set_option maxRecDepth 100000 in
/-- A system command that ends with a bell. -/
theorem osc (w : World) (b cap : Nat) (D : List Int) (h0 : w.cell? ⟨b, 0, none⟩ = some (.int .u8 27)) (h1 : w.cell? ⟨b, 1, none⟩ = some (.int .u8 93))
    (hc : ∀ k, k < D.length → w.cell? ⟨b, 2 + k, none⟩ = some (.int .u8 (D.getD k 0))) (h7 : w.cell? ⟨b, 2 + D.length, none⟩ = some (.int .u8 7)) (hl : D.length ≤ 1000000) (hcap : D.length + 3 ≤ cap)
    (hno : ∀ k, k < D.length → D.getD k 0 ≠ 27 ∧ D.getD k 0 ≠ 7) :
    Calls Tryz.prog 7 #[.slice (some ⟨b, 0, none⟩) (D.length + 3) cap] w fun e w' =>
      e = .returned (.tuple #[.agg #[.int .i64 3, .int .u8 0, .slice none 0 0, .slice none 0 0, .int .u8 0, .slice (some ⟨b, 2, none⟩) D.length (cap - 2), .bool true], .bool true]) ∧ Below w.heap.size w w' := by
  have hbw : b < w.heap.size := World.block_lt_of_cell? w _ h0
  have HCC := Lib.hid hc
  have HNO := Lib.hid hno
  have HC7 := Lib.hid h7
  obtain ⟨n, hn⟩ : ∃ n, n = D.length := ⟨_, rfl⟩
  have HN := Lib.hid hn
  rw [← hn] at hl hcap ⊢
  have t0 : decide ((n : Int) + 3 < 2) = false := decide_eq_false (by omega)
  have t1 : decide (n + 3 < 2) = false := decide_eq_false (by omega)
  have tc : ¬ cap = 2 := by omega
  clear hc hno h7 hn
  go_enter Tryz.func7, Tryz.ntmps7
  go_upto_region 2 with (fail)
  obtain ⟨W0, hW0⟩ : ∃ W0, W0 = w.alloc (.cells #[.int .i64 0, .int .u8 0, .slice none 0 0, .slice none 0 0, .int .u8 0, .slice none 0 0, .bool false] 26) := ⟨_, rfl⟩
  have hW0s : W0.heap.size = w.heap.size + 1 := by rw [hW0]; simp
  have hC0 : W0.heap[w.heap.size]? = some (.cells #[.int .i64 0, .int .u8 0, .slice none 0 0, .slice none 0 0, .int .u8 0, .slice none 0 0, .bool false] 26 (0, 0)) := by rw [hW0]; exact heap_alloc_new w _
  have hB0 : Below w.heap.size w W0 := by rw [hW0]; exact (Below.refl _ w).alloc (Nat.le_refl _) _
  rw [← hW0]
  rw [← hW0s]
  obtain ⟨W1, hW1⟩ : ∃ W1, W1 = W0.alloc (.cells #[.int .i64 0, .int .u8 0, .slice none 0 0, .slice none 0 0, .int .u8 0, .slice none 0 0, .bool false] 26) := ⟨_, rfl⟩
  have hS1 : W1.heap[W0.heap.size]? = some (.cells #[.int .i64 0, .int .u8 0, .slice none 0 0, .slice none 0 0, .int .u8 0, .slice none 0 0, .bool false] 26 (0, 0)) := by rw [hW1]; exact heap_alloc_new W0 _
  have hB1 : Below W0.heap.size W0 W1 := by rw [hW1]; exact (Below.refl _ W0).alloc (Nat.le_refl _) _
  rw [← hW1]
  have hb01 : Below w.heap.size w W1 := hB0.trans (hB1.mono (by omega))
  have g0 := (hb01.cell (World.block_lt_of_cell? w _ h0)).trans h0
  have g1 := (hb01.cell (World.block_lt_of_cell? w _ h1)).trans h1
  have s0 := cell_of hS1 0 (.int .i64 0) rfl
  have z0 := froz_of hS1 0
  obtain ⟨C, hC⟩ : ∃ C, C = w.heap.size := ⟨_, rfl⟩
  obtain ⟨B, hBv⟩ : ∃ B, B = W0.heap.size := ⟨_, rfl⟩
  rw [← hC] at hC0 hB0 hW0s ⊢
  rw [← hBv] at hS1 hB1 s0 z0 hW0s ⊢
  have hCB : C ≠ B := by omega
  have hBC : B ≠ C := fun e => hCB e.symm
  have hbB : b ≠ B := by omega
  have hbC : b ≠ C := by omega
  obtain ⟨W2, hW2⟩ : ∃ W2, W2 = W1.setCell ⟨B, 0, none⟩ (.int .i64 3) := ⟨_, rfl⟩
  have hS2 : W2.heap[B]? = some (.cells #[.int .i64 3, .int .u8 0, .slice none 0 0, .slice none 0 0, .int .u8 0, .slice none 0 0, .bool false] 26 (0, 0)) := by rw [hW2]; exact cell_set hS1 _
  have HC2 : Hid (W2.heap[C]? = some (.cells #[.int .i64 0, .int .u8 0, .slice none 0 0, .slice none 0 0, .int .u8 0, .slice none 0 0, .bool false] 26 (0, 0))) := Lib.hid (by rw [hW2]; exact cell_far ((hB1.block C (by omega)).trans hC0) hCB _)
  have HB2 : Hid (Below C w W2) := Lib.hid (by rw [hW2, hC]; exact hb01.setCell (by show w.heap.size ≤ B; omega) _)
  have HCE := Lib.hid hC
  have HWS := Lib.hid hW0s
  have HBW := Lib.hid hbw
  have HS2 := Lib.hid hS2
  have HR : Hid (Calls Tryz.prog 13 #[.slice (some ⟨b, 2, none⟩) (n + 1) (cap - 2), .pointer (some ⟨B, 0, none⟩)] W2 fun e w' => e = .returned (.bool true) ∧ w' = (W2.setCell ⟨B, 5, none⟩ (.slice (some ⟨b, 2, none⟩) n (cap - 2))).setCell ⟨B, 6, none⟩ (.bool true)) := Lib.hid (by
    have hk : ∀ a : Addr, a.block = b → W2.cell? a = w.cell? a := fun a ha => HB2.out.cell (by rw [ha]; omega)
    have h := rstr W2 B b 2 (cap - 2) D hbB hS2 (fun k hk2 => (hk _ rfl).trans (HCC.out k hk2)) ((hk _ rfl).trans HC7.out) (by rw [← HN.out]; exact hl) (by rw [← HN.out]; omega) HNO.out
    rw [← HN.out] at h
    exact h)
  clear hBv hC hS1 hb01 hW1 hW0 hC0 hB0 hB1 hW0s h0 h1 hS2 hbw
  go_upto_region 17 with (fail)
  rw [← hW2]
  clear hW2 s0 z0 g0 g1
  go_wp2_with fail
  refine HR.out.mono ?_
  rintro e w4 ⟨rfl, hw4⟩
  have hS4 : w4.heap[B]? = some (.cells #[.int .i64 3, .int .u8 0, .slice none 0 0, .slice none 0 0, .int .u8 0, .slice (some ⟨b, 2, none⟩) n (cap - 2), .bool true] 26 (0, 0)) := by
    rw [hw4]
    exact cell_set (cell_set HS2.out _) _
  have hC4 : w4.heap[C]? = some (.cells #[.int .i64 0, .int .u8 0, .slice none 0 0, .slice none 0 0, .int .u8 0, .slice none 0 0, .bool false] 26 (0, 0)) := by
    rw [hw4]
    exact cell_far (cell_far HC2.out hCB _) hCB _
  have hcle : C ≤ B := by have := HWS.out; omega
  have HB4 : Hid (Below C w w4) := Lib.hid (by rw [hw4]; exact (HB2.out.setCell (by show C ≤ B; exact hcle) _).setCell (by show C ≤ B; exact hcle) _)
  have e0 := cell_of hS4 0 (.int .i64 3) rfl
  have e1 := cell_of hS4 1 (.int .u8 0) rfl
  have e2 := cell_of hS4 2 (.slice none 0 0) rfl
  have e3 := cell_of hS4 3 (.slice none 0 0) rfl
  have e4 := cell_of hS4 4 (.int .u8 0) rfl
  have e5 := cell_of hS4 5 (.slice (some ⟨b, 2, none⟩) n (cap - 2)) rfl
  have e6 := cell_of hS4 6 (.bool true) rfl
  have c0 := cell_of hC4 0 (.int .i64 0) rfl
  have c1 := cell_of hC4 1 (.int .u8 0) rfl
  have c2 := cell_of hC4 2 (.slice none 0 0) rfl
  have c3 := cell_of hC4 3 (.slice none 0 0) rfl
  have c4 := cell_of hC4 4 (.int .u8 0) rfl
  have c5 := cell_of hC4 5 (.slice none 0 0) rfl
  have c6 := cell_of hC4 6 (.bool false) rfl
  have f0 := froz_of hC4 0
  have f1 := froz_of hC4 1
  have f2 := froz_of hC4 2
  have f3 := froz_of hC4 3
  have f4 := froz_of hC4 4
  have f5 := froz_of hC4 5
  have f6 := froz_of hC4 6
  clear hS4 hC4 hw4
  go_wp2
  have hCw : w.heap.size ≤ C := by have := HCE.out; omega
  refine bodyPost_ret (v := .tuple #[.agg #[.int .i64 3, .int .u8 0, .slice none 0 0, .slice none 0 0, .int .u8 0, .slice (some ⟨b, 2, none⟩) n (cap - 2), .bool true], .bool true]) (by simp [results, Tryz.results7, go_sem, c0, c1, c2, c3, c4, c5, c6]) rfl ⟨rfl, ?_⟩
  have hb : Below w.heap.size w w4 := by
    have h := HB4.out
    rw [HCE.out] at h
    exact h
  exact ((((((hb.setCell hCw _).setCell hCw _).setCell hCw _).setCell hCw _).setCell hCw _).setCell hCw _).setCell hCw _
end Go.Proofs.YtjjkagjdbjpikaaGreatDoor.Osc
