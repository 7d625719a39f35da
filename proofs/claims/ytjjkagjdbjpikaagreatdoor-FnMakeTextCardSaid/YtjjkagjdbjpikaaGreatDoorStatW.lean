/- A program's status that clears, by hand: what ClearProgramStatusID makes, and what the reference's MadeStatus makes. -/
import Derived.Test.YtjjkagjdbjpikaaGreatDoorStatP
import Derived.Test.YtjjkagjdbjpikaaGreatDoorTmuxW
import Derived.Laws.MakeOwn
import Derived.Deep.DeepCutAuto
import Derived.Deep.CutBlock
namespace Go.Proofs.YtjjkagjdbjpikaaGreatDoor.Or
set_option linter.unusedVariables false
set_option linter.unusedSimpArgs false
open Go Go.RowKit Go.Proofs.YtjjkagjdbjpikaaGreatDoorW.PrintWords Go.Proofs.YtjjkagjdbjpikaaGreatDoorW.PrintLast Go.Proofs.YtjjkagjdbjpikaaGreatDoorW.PrintMore Go.Proofs.YtjjkagjdbjpikaaGreatDoor.PV

def clearT : ByteArray := ⟨#[99, 108, 101, 97, 114]⟩
def stateT : ByteArray := (⟨#[115, 116, 97, 116, 101, 61]⟩ : ByteArray) ++ clearT
def statT (s : ByteArray) : ByteArray := (⟨#[27, 93, 55, 53, 48, 49, 59]⟩ : ByteArray) ++ (if s.toList = [] then stateT else stateT ++ (⟨#[58]⟩ : ByteArray) ++ ((⟨#[105, 100, 61]⟩ : ByteArray) ++ s)) ++ (⟨#[7]⟩ : ByteArray)

theorem R_one (w : World) (x : ByteArray) : Kd.R Kd.string 9 (w.alloc (.cells #[.string x] 9)) w.heap.size (fun _ => True) (.slice (some ⟨w.heap.size, 0, none⟩) 1 1) [x] :=
  ⟨fun _ _ => trivial, [.string x], ⟨rfl, .inr ⟨w.heap.size, 1, #[.string x], rfl, Nat.le_refl _, heap_alloc_new w _, Nat.le_refl _, by unfold maxLen; omega, rfl, rfl⟩⟩, Reps.one rfl (Reps.none _ _)⟩

theorem seq_one (s : ByteArray) (hne : s.toList = []) (S : ByteArray) (hS : S = (⟨#[115, 116, 97, 116, 101, 61]⟩ : ByteArray) ++ ⟨#[99, 108, 101, 97, 114]⟩) : xansi_programStatusSequence.f 10 [S] = some (statT s) := by
  have h11 : S.size = 11 := by rw [hS]; rfl
  have e0 : (⟨#[]⟩ : ByteArray) ++ S = S := by apply ByteArray.ext; simp [ByteArray.data_append]
  have hz : (⟨#[]⟩ : ByteArray).size = 0 := rfl
  have w1 : wrap64 ((0 : Int) + 1) = 1 := by unfold wrap64; omega
  have r0 : rdOf ByteArray.empty [S] 0 = S := rfl
  unfold xansi_programStatusSequence.f xansi_zzJoin.f
  simp only [List.length_cons, List.length_nil]
  unfold xansi_zzJoin.l0
  rw [if_pos (by omega), if_pos (by omega), if_pos (by simp), if_neg (by omega), r0, if_pos (by rw [hz, h11]; omega), e0, w1]
  unfold xansi_zzJoin.l0
  rw [if_neg (by omega), Option.bind_some, if_pos (by omega), if_pos (by omega)]
  unfold statT
  rw [if_pos hne, hS]
  rfl
theorem seq_two (s : ByteArray) (hs : s.size ≤ 1000000) (hne : ¬ s.toList = []) (S : ByteArray) (hS : S = (⟨#[115, 116, 97, 116, 101, 61]⟩ : ByteArray) ++ ⟨#[99, 108, 101, 97, 114]⟩) : xansi_programStatusSequence.f 10 ([S] ++ [(⟨#[105, 100, 61]⟩ : ByteArray) ++ s]) = some (statT s) := by
  have h11 : S.size = 11 := by rw [hS]; rfl
  obtain ⟨I, hI⟩ : ∃ I, I = (⟨#[105, 100, 61]⟩ : ByteArray) ++ s := ⟨_, rfl⟩
  have hIs : I.size = 3 + s.size := by rw [hI, ByteArray.size_append]; rfl
  have e0 : (⟨#[]⟩ : ByteArray) ++ S = S := by apply ByteArray.ext; simp [ByteArray.data_append]
  have hz : (⟨#[]⟩ : ByteArray).size = 0 := rfl
  have hc : (⟨#[58]⟩ : ByteArray).size = 1 := rfl
  have w1 : wrap64 ((0 : Int) + 1) = 1 := by unfold wrap64; omega
  have w2 : wrap64 ((1 : Int) + 1) = 2 := by unfold wrap64; omega
  have r0 : rdOf ByteArray.empty [S, I] 0 = S := rfl
  have r1 : rdOf ByteArray.empty [S, I] 1 = I := rfl
  rw [← hI]
  show xansi_programStatusSequence.f 10 [S, I] = _
  unfold xansi_programStatusSequence.f xansi_zzJoin.f
  simp only [List.length_cons, List.length_nil]
  unfold xansi_zzJoin.l0
  rw [if_pos (by omega), if_pos (by omega), if_pos (by simp), if_neg (by omega), r0, if_pos (by rw [hz, h11]; omega), e0, w1]
  unfold xansi_zzJoin.l0
  rw [if_pos (by omega), if_pos (by omega), if_pos (by simp), if_pos (by omega), r1, if_pos (by rw [hc, h11]; omega), if_pos (by rw [hc, h11, hIs]; omega), w2]
  unfold xansi_zzJoin.l0
  have hj : ((S ++ (⟨#[58]⟩ : ByteArray)) ++ I).size = 15 + s.size := by rw [ByteArray.size_append, ByteArray.size_append, h11, hc, hIs]; omega
  rw [if_neg (by omega), Option.bind_some, if_pos (by omega), if_pos (by omega)]
  unfold statT
  rw [if_neg hne, hS, hI]
  rfl
theorem infoS : (Tryz.prog.info? 9).map (fun i => (i.zero, i.size, i.bytes)) = some (some (.string ByteArray.empty), 1, 16) := by kernel_rfl
set_option maxHeartbeats 8000000 in
set_option maxRecDepth 100000 in
theorem set_clear (s : ByteArray) (w : World) (hs : s.size ≤ 1000000) (hne : ¬ s.toList = []) (k : Nat) (hv : xansi_validProgramStatusID.f k s = some true) :
    Calls Tryz.prog 66 #[.agg #[.string clearT, .string s, .string ⟨#[]⟩, .string ⟨#[]⟩, .int .i64 0, .bool false, .string ⟨#[]⟩, .string ⟨#[]⟩]] w fun e w' => e = .returned (.string (statT s)) ∧ Below w.heap.size w w' := by
  have HV := Lib.hid hv
  have t3 : s.toList.isEmpty = false := by cases h : s.toList with
    | nil => exact absurd h hne
    | cons a t => rfl
  clear hv
  unfold clearT
  go_enter Tryz.func66, Tryz.ntmps66
  go_wp2_with fail
  refine (xansi_validProgramStatusID.calls k s true _ HV.out).mono ?_
  rintro e w1 ⟨rfl, hb1⟩
  have ha := (Below.refl _ w).alloc (Nat.le_refl _) (.cells #[.string ⟨#[99, 108, 101, 97, 114]⟩, .string s, .string ⟨#[]⟩, .string ⟨#[]⟩, .int .i64 0, .bool false, .string ⟨#[]⟩, .string ⟨#[]⟩] 60)
  have hW1 : Below w.heap.size w w1 := ha.trans (hb1.mono ha.size)
  have hbk : w1.heap[w.heap.size]? = some (.cells #[.string ⟨#[99, 108, 101, 97, 114]⟩, .string s, .string ⟨#[]⟩, .string ⟨#[]⟩, .int .i64 0, .bool false, .string ⟨#[]⟩, .string ⟨#[]⟩] 60 (0, 0)) := (hb1.block w.heap.size (by simp)).trans (heap_alloc_new w _)
  have g0 : w1.cell? ⟨w.heap.size, 0, none⟩ = some (.string ⟨#[99, 108, 101, 97, 114]⟩) := by simp [World.cell?, hbk]
  have g1 : w1.cell? ⟨w.heap.size, 1, none⟩ = some (.string s) := by simp [World.cell?, hbk]
  have HB1 := Lib.hid hW1
  have HBK := Lib.hid hbk
  clear hb1 ha hW1 hbk
  go_upto_region 12 with (fail)
  have HW0 := Lib.hid HB1.out.size
  obtain ⟨S, hS⟩ : ∃ S, S = (⟨#[115, 116, 97, 116, 101, 61]⟩ : ByteArray) ++ ⟨#[99, 108, 101, 97, 114]⟩ := ⟨_, rfl⟩
  rw [← hS]
  have hr0 := R_one w1 S
  obtain ⟨W2, hW2⟩ : ∃ W, W = w1.alloc (.cells #[.string S] 9) := ⟨_, rfl⟩
  rw [← hW2] at hr0 ⊢
  have hb2 : Below w1.heap.size w1 W2 := by rw [hW2]; exact (Below.refl _ w1).alloc (Nat.le_refl _) _
  have hlt : w.heap.size < w1.heap.size := lt_of_block HBK.out
  have hbk2 := (hb2.block w.heap.size hlt).trans HBK.out
  obtain ⟨b, hb⟩ : ∃ b, b = w1.heap.size := ⟨_, rfl⟩
  rw [← hb] at hr0 hb2 ⊢
  obtain ⟨V, hV⟩ : ∃ V, V = Value.slice (some ⟨b, 0, none⟩) 1 1 := ⟨_, rfl⟩
  rw [← hV] at hr0 ⊢
  clear hV
  have HB2 := Lib.hid hb2
  have HBK2 := Lib.hid hbk2
  have HR0 := Lib.hid hr0
  have HS := Lib.hid hS
  have HBE := Lib.hid hb
  have g0 : W2.cell? ⟨w.heap.size, 0, none⟩ = some (.string ⟨#[99, 108, 101, 97, 114]⟩) := by simp [World.cell?, hbk2]
  have g1 : W2.cell? ⟨w.heap.size, 1, none⟩ = some (.string s) := by simp [World.cell?, hbk2]
  clear hS hW2 hb2 hbk2 hr0 hb hlt
  go_upto_region 13 with (fail)
  go_upto_region 14 with (first | ((with_reducible refine gate_builtin (b := .append) (xs := #[.tmp 31, .tmp 35]) rfl ?_); (try (refine gate_guard (by rfl) ?_; dsimp only)); at_builtin; refine Kd.R_append Kd.string (w0 := w1) b rfl (.tmp 31) (.tmp 35) 30 9 (.string ByteArray.empty) 16 rfl Tryz.underlying30 infoS rfl (by decide) (by omega) _ [S] ((⟨#[105, 100, 61]⟩ : ByteArray) ++ s) [.string ((⟨#[105, 100, 61]⟩ : ByteArray) ++ s)] (fun _ => True) (fun _ => False) rfl rfl rfl (fun _ hk => hk.elim) (fun _ _ => trivial) HR0.out HB2.out (by rw [HBE.out]; exact HB2.out.size) (by show (1 + 1) * 16 ≤ 140737488355328; omega) ?_; intro v1 w4 ho hb _ _; have HO4 := Lib.hid ho; have HB4 := Lib.hid hb; clear ho hb))
  have hbk4 := (HB4.out.block w.heap.size (by rw [HBE.out]; exact lt_of_block HBK.out)).trans HBK.out
  have g4 : w4.cell? ⟨w.heap.size, 0, none⟩ = some (.string ⟨#[99, 108, 101, 97, 114]⟩) := by simp [World.cell?, hbk4]
  obtain ⟨A5, c5, rfl⟩ := Kd.R_slice HO4.out
  clear hbk4 g0 g1
  go_wp2_with fail
  have hq : xansi_programStatusSequence.f 10 ([S] ++ [(⟨#[105, 100, 61]⟩ : ByteArray) ++ s]) = some (statT s) := seq_two s hs hne S HS.out
  refine (xansi_programStatusSequence.calls 10 _ _ _ (statT s) _ (Kd.R_reads' HO4.out).2.2 (Kd.R_reads' HO4.out).2.1 hq).mono ?_
  rintro e w6 ⟨rfl, hd6⟩
  have HW6 : Hid (Below w.heap.size w w6) := Lib.hid ((HB1.out.trans (HB4.out.mono (by rw [HBE.out]; exact HB1.out.size))).trans (hd6.below.mono (Nat.le_trans HB1.out.size (by have := HB4.out.size; exact this))))
  go_wp2
  go_ret
  exact ⟨rfl, HW6.out⟩

set_option maxHeartbeats 8000000 in
set_option maxRecDepth 100000 in
theorem set_bad (s : ByteArray) (w : World) (hs : s.size ≤ 1000000) (hne : ¬ s.toList = []) (k : Nat) (hv : xansi_validProgramStatusID.f k s = some false) :
    Calls Tryz.prog 66 #[.agg #[.string clearT, .string s, .string ⟨#[]⟩, .string ⟨#[]⟩, .int .i64 0, .bool false, .string ⟨#[]⟩, .string ⟨#[]⟩]] w fun e w' => e = .returned (.string ⟨#[]⟩) ∧ Below w.heap.size w w' := by
  have HV := Lib.hid hv
  have t3 : s.toList.isEmpty = false := by cases h : s.toList with
    | nil => exact absurd h hne
    | cons a t => rfl
  clear hv
  unfold clearT
  go_enter Tryz.func66, Tryz.ntmps66
  go_wp2_with fail
  refine (xansi_validProgramStatusID.calls k s false _ HV.out).mono ?_
  rintro e w1 ⟨rfl, hb1⟩
  have ha := (Below.refl _ w).alloc (Nat.le_refl _) (.cells #[.string ⟨#[99, 108, 101, 97, 114]⟩, .string s, .string ⟨#[]⟩, .string ⟨#[]⟩, .int .i64 0, .bool false, .string ⟨#[]⟩, .string ⟨#[]⟩] 60)
  have hW1 : Below w.heap.size w w1 := ha.trans (hb1.mono ha.size)
  go_wp2
  go_ret
  exact ⟨rfl, hW1⟩

set_option maxHeartbeats 8000000 in
set_option maxRecDepth 100000 in
theorem set_none (s : ByteArray) (w : World) (hne : s.toList = []) :
    Calls Tryz.prog 66 #[.agg #[.string clearT, .string s, .string ⟨#[]⟩, .string ⟨#[]⟩, .int .i64 0, .bool false, .string ⟨#[]⟩, .string ⟨#[]⟩]] w fun e w' => e = .returned (.string (statT s)) ∧ Below w.heap.size w w' := by
  unfold clearT
  go_enter Tryz.func66, Tryz.ntmps66
  go_upto_region 12 with (fail)
  obtain ⟨W1, hW1⟩ : ∃ W, W = w.alloc (.cells #[.string ⟨#[99, 108, 101, 97, 114]⟩, .string s, .string ⟨#[]⟩, .string ⟨#[]⟩, .int .i64 0, .bool false, .string ⟨#[]⟩, .string ⟨#[]⟩] 60) := ⟨_, rfl⟩
  have hs1 : W1.heap.size = w.heap.size + 1 := by rw [hW1]; simp
  have hbk : W1.heap[w.heap.size]? = some (.cells #[.string ⟨#[99, 108, 101, 97, 114]⟩, .string s, .string ⟨#[]⟩, .string ⟨#[]⟩, .int .i64 0, .bool false, .string ⟨#[]⟩, .string ⟨#[]⟩] 60 (0, 0)) := by rw [hW1]; exact heap_alloc_new w _
  have hB1 : Below w.heap.size w W1 := by rw [hW1]; exact (Below.refl _ w).alloc (Nat.le_refl _) _
  rw [← hW1]
  obtain ⟨S, hS⟩ : ∃ S, S = (⟨#[115, 116, 97, 116, 101, 61]⟩ : ByteArray) ++ ⟨#[99, 108, 101, 97, 114]⟩ := ⟨_, rfl⟩
  rw [← hS]
  have hr0 := R_one W1 S
  have hb2 : Below W1.heap.size W1 (W1.alloc (.cells #[.string S] 9)) := (Below.refl _ W1).alloc (Nat.le_refl _) _
  rw [← hs1]
  obtain ⟨W2, hW2⟩ : ∃ W, W = W1.alloc (.cells #[.string S] 9) := ⟨_, rfl⟩
  rw [← hW2] at hr0 hb2 ⊢
  have hbk2 := (hb2.block w.heap.size (by omega)).trans hbk
  have g0 : W2.cell? ⟨w.heap.size, 0, none⟩ = some (.string ⟨#[99, 108, 101, 97, 114]⟩) := by simp [World.cell?, hbk2]
  have g1 : W2.cell? ⟨w.heap.size, 1, none⟩ = some (.string s) := by simp [World.cell?, hbk2]
  have HB2 : Hid (Below w.heap.size w W2) := Lib.hid (hB1.trans (hb2.mono (by omega)))
  rw [hs1] at hr0
  have HR0 := Lib.hid hr0
  have HS := Lib.hid hS
  clear hr0 hb2 hbk2 hW2 hB1 hbk hW1 hS
  go_wp2_with fail
  have hq : xansi_programStatusSequence.f 10 [S] = some (statT s) := seq_one s hne S HS.out
  refine (xansi_programStatusSequence.calls 10 _ _ [S] (statT s) _ (Kd.R_reads' HR0.out).2.2 (Kd.R_reads' HR0.out).2.1 hq).mono ?_
  rintro e w6 ⟨rfl, hd6⟩
  have HW6 : Hid (Below w.heap.size w w6) := Lib.hid (HB2.out.trans (hd6.below.mono HB2.out.size))
  go_wp2
  go_ret
  exact ⟨rfl, HW6.out⟩
end Go.Proofs.YtjjkagjdbjpikaaGreatDoor.Or
