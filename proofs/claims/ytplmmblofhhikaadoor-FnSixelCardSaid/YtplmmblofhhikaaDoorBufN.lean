/- bytes.Buffer's Write of no bytes (a nil slice, or an empty one): the buffer holds what it held. -/
import Derived.Test.YtplmmblofhhikaaDoorBufA
import Derived.KernelRfl
import Derived.Lib.Hide
namespace Go.Proofs.YtplmmblofhhikaaDoor.Buf
open Go Go.RowKit Go.Proofs.YtplmmblofhhikaaDoor.Or

theorem run_copy_none {P : Program} (w : World) (dT sT ty elem : TypeId) (d s : Option Addr) (dCap sCap : Nat)
    (hu : P.underlying dT = some (.slice elem)) (hs : ((P.info? elem).map (·.size)).isSome = true) :
    (Builtin.copy_ #[dT, sT] ty #[.slice d 0 dCap, .slice s 0 sCap]).run P w = .ok (goInt 0) w := by
  cases hq : P.info? elem with
  | none => simp [hq] at hs
  | some i =>
    cases d <;> cases s <;> simp [Builtin.copy_, run_underlying hu, Builtin.lenOf, Builtin.firstCells, sizeOf, typeInfo, hq, storeCells, loadCells, loadCellsFrom]

set_option maxHeartbeats 4000000 in
theorem wr_none (w0 : World) (s : ByteArray) (A0 : Option Addr) (c : Nat) (w : World) (h : Buf w0 s w) :
    Calls Tryd.prog 118 #[.pointer (some ⟨w0.heap.size, 0, none⟩), .slice A0 0 c] w fun e w' => e = .returned (.tuple #[.int .i64 0, .nilIface]) ∧ Buf w0 s w' := by
  obtain ⟨v, lr, hbk, _, _⟩ := h.1.2
  have hc2 : w.cell? ⟨w0.heap.size, 2, none⟩ = some (.int .i8 lr) := by simp [World.cell?, hbk]
  have hf2 : w.frozen? ⟨w0.heap.size, 2, none⟩ = false := by simp [World.frozen?, hbk]
  have H1 := Lib.hid (h.1.setLast (w := w) 0)
  have HB1 : Hid (Below w0.heap.size w0 (w.setCell ⟨w0.heap.size, 2, none⟩ (.int .i8 0))) := Lib.hid (h.2.setCell (Nat.le_refl _) _)
  have hcp := fun W d dc => run_copy_none (P := Tryd.prog) W 30 30 3 5 d A0 dc c Tryd.underlying30 (by kernel_rfl)
  clear hbk
  go_enter Tryd.func118, Tryd.ntmps118
  go_wp2_with fail
  refine (Tryd.Buffer_tryGrow w0.heap.size w0.heap.size 0 _ _ H1.out).mono ?_
  rintro e w2 (⟨rfl, xs, hx, h2, b2⟩ | ⟨rfl, rfl, hn⟩)
  · obtain rfl : xs = [] := List.length_eq_zero_iff.1 hx
    rw [List.append_nil] at h2
    have hb2 := HB1.out.trans b2
    have HF : Hid (Buf w0 s w2) := Lib.hid ⟨h2, hb2⟩
    rcases h2.cases with ⟨_, lr2, ⟨h0, hk⟩ | ⟨g, cap, cur, hk, _, hg, hlc, hcm, _, _, _⟩⟩
    · have hl0 : (Lib.byteCells s.data.toList).length = 0 := by rw [h0]; rfl
      rw [hl0]
      have hc0 : w2.cell? ⟨w0.heap.size, 0, none⟩ = some (.slice none 0 0) := by simp [World.cell?, hk]
      clear hx h0 hl0 hk hc2 hf2
      go_wp2
      go_ret2
      exact ⟨rfl, HF.out⟩
    · obtain ⟨n, hnn⟩ : ∃ n, n = (Lib.byteCells s.data.toList).length := ⟨_, rfl⟩
      rw [← hnn] at hk hlc ⊢
      have hc0 : w2.cell? ⟨w0.heap.size, 0, none⟩ = some (.slice (some ⟨g, 0, none⟩) n cap) := by simp [World.cell?, hk]
      clear hx hk hc2 hf2 hnn hg
      go_wp2
      all_goals (go_ret2; exact ⟨rfl, HF.out⟩)
  · exfalso
    obtain ⟨ao, l, cap, _, hlt⟩ := hn
    omega
end Go.Proofs.YtplmmblofhhikaaDoor.Buf
