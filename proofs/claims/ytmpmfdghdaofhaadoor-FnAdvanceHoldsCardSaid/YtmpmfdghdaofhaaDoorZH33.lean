/- Texts of this claim, joined; what isn't needed is left out (wip/slim.py). -/
import Derived.Test.YtmpmfdghdaofhaaDoorProg
import Derived.Test.YtmpmfdghdaofhaaDoorZH3
import Derived.Test.YtmpmfdghdaofhaaDoorZH1
import Derived.Test.YtmpmfdghdaofhaaDoorZH2
import Derived.Lib.LazyBuf
import Derived.WalkKit
import Derived.KernelRfl
import Derived.Below
namespace Go.Proofs.YtmpmfdghdaofhaaDoor.Or
open Go Go.RowKit Go.Proofs.YtmpmfdghdaofhaaDoorW.PrintWords Go.Proofs.YtmpmfdghdaofhaaDoorW.PrintLast
def bytes_Clone.f (l0 : List Int) : Option (List Int) := if l0.length < 140737488355328 then some l0 else none
theorem info_u8 : (Tryd.prog.info? 5).map (fun i => (i.zero, i.size, i.bytes)) = some (some (.int .u8 0), 1, 1) := by kernel_rfl
theorem row0 (w : World) : Kd.R (Kd.int .u8) 5 (w.alloc (.cells #[] 5)) w.heap.size (fun _ => True) (.slice (some ⟨w.heap.size, 0, none⟩) 0 0) ([] : List Int) :=
  ⟨fun _ _ => trivial, [], ⟨by simp, .inr ⟨w.heap.size, 0, #[], rfl, Nat.le_refl _, heap_alloc_new w _, Nat.le_refl _, by unfold maxLen; omega, by simp, by simp⟩⟩, Reps.none _ _⟩
set_option maxHeartbeats 4000000 in
theorem bytes_Clone.calls (A0 : Option Addr) (c0 : Nat) (l0 : List Int) (r : List Int) (w : World) (hr0 : Kd.C (Kd.int .u8) w A0 l0.length l0) (_hc0 : l0.length ≤ c0) (h : bytes_Clone.f l0 = some r) :
    Calls Tryd.prog 13 #[.slice A0 l0.length c0] w fun e w' => ∃ v0_ : Value, e = .returned (v0_) ∧ Kd.R (Kd.int .u8) 5 w' w.heap.size (fun _ => True) v0_ r ∧ Below w.heap.size w w' := by
  unfold bytes_Clone.f at h
  split at h
  · rename_i hlen
    obtain rfl := Option.some.inj h
    have heq := Go.run_eql_slice_nil (P := Tryd.prog) w 27 5 A0 l0.length c0 Tryd.underlying27
    cases A0 with
    | none =>
      have hz : l0 = [] := by
        cases l0 with
        | nil => rfl
        | cons a t => obtain ⟨ad, e, _⟩ := hr0.2.2 (by simp); cases e
      subst hz
      have heq' : (binOp .eql 27 (.slice none 0 c0) (.slice none 0 0)).run Tryd.prog w = .ok (.bool true) w := heq
      clear heq h hr0
      go_enter Tryd.func13, Tryd.ntmps13
      go_wp2
      go_ret
      exact ⟨_, rfl, Kd.R_nil _ _ _ _ _, Below.refl _ _⟩
    | some ad =>
      have heq' : (binOp .eql 27 (.slice (some ad) l0.length c0) (.slice none 0 0)).run Tryd.prog w = .ok (.bool false) w := heq
      clear heq h
      have HR := Aside0.mk hr0
      have HL := Aside0.mk hlen
      clear hr0 hlen
      go_enter Tryd.func13, Tryd.ntmps13
      go_wp2_with ((with_reducible refine gate_builtin (b := .append) (xs := #[.tmp 5, .tmp 6]) rfl ?_); at_builtin; refine Kd.R_append_rows (Kd.int .u8) (w0 := w) w.heap.size rfl (.tmp 5) (.tmp 6) 27 5 (.int .u8 0) 1 rfl Tryd.underlying27 info_u8 rfl (by decide) (by omega) (.slice (some ⟨w.heap.size, 0, none⟩) 0 0) ([] : List Int) l0 _ _ _ (fun _ => True) (fun _ => False) rfl rfl ?aO ?aR (fun _ _ h => h) (fun _ h => h.elim) (fun _ _ => trivial) ?aB ?aS ?aL ?_; (case aR => exact Kd.C_alloc HR.out _); (case aB => exact below_alloc (Below.refl _ _) _); (case aS => simp); (case aL => have := HL.out; simp only [List.length_nil]; omega); (case aO => exact row0 w); intro v1 w3 ho hb hg hat; have HO := Aside0.mk ho; have HB := Aside0.mk hb; clear ho hb hg hat)
      go_ret
      exact ⟨_, rfl, HO.out, HB.out⟩
  · cases h
end Go.Proofs.YtmpmfdghdaofhaaDoor.Or
