/- The reference's MadeText, by hand. -/
import Derived.Test.YtjjkagjdbjpikaaGreatDoorStatM
import Derived.Test.YtjjkagjdbjpikaaGreatDoorStatQ
import Derived.Test.YtjjkagjdbjpikaaGreatDoorTmuxW
import Derived.Test.YtjjkagjdbjpikaaGreatDoorLit
import Derived.Laws.MakeOwn
namespace Go.Proofs.YtjjkagjdbjpikaaGreatDoor.Or
set_option linter.unusedVariables false
set_option linter.unusedSimpArgs false
open Go Go.RowKit Go.Proofs.YtjjkagjdbjpikaaGreatDoorW.PrintWords Go.Proofs.YtjjkagjdbjpikaaGreatDoorW.PrintLast Go.Proofs.YtjjkagjdbjpikaaGreatDoorW.PrintMore Go.Proofs.YtjjkagjdbjpikaaGreatDoor.PV

def numT (i : Int) : ByteArray :=
  if i = 0 then ⟨#[50]⟩ else if i = 1 then ⟨#[49]⟩ else if i = 2 then ⟨#[48]⟩ else if i = 3 then ⟨#[49, 48]⟩ else if i = 4 then ⟨#[49, 49]⟩ else if i = 5 then ⟨#[49, 50]⟩
  else if i = 6 then ⟨#[50, 50]⟩ else if i = 7 then ⟨#[57]⟩ else if i = 8 then ⟨#[50]⟩ else ⟨#[50]⟩
def aheadT (i : Int) (s : ByteArray) : ByteArray := if i = 8 then (⟨#[76, 59]⟩ : ByteArray) ++ s else if i = 9 then (⟨#[49, 59]⟩ : ByteArray) ++ s else s
def titleT (i : Int) (s : ByteArray) : ByteArray := (((⟨#[27, 93]⟩ : ByteArray) ++ numT i) ++ (⟨#[59]⟩ : ByteArray)) ++ aheadT i s ++ (⟨#[7]⟩ : ByteArray)
def da3T (s : ByteArray) : ByteArray := if s.toList = [] then ⟨#[27, 91, 61, 99]⟩ else if s.toList = [48] then ⟨#[27, 91, 61, 48, 99]⟩ else ((⟨#[27, 80, 33, 124]⟩ : ByteArray) ++ s) ++ ⟨#[27, 92]⟩

set_option maxHeartbeats 8000000 in
set_option maxRecDepth 100000 in
theorem made_title (i : Int) (s : ByteArray) (w : World) (h0 : 0 ≤ i) (h9 : i ≤ 9) (hs : s.size ≤ 1000000) :
    Calls Tryz.prog 10 #[.int .i64 i, .string s] w fun e w' => e = .returned (.string (titleT i s)) ∧ Below w.heap.size w w' := by
  have e1 : ((⟨#[76, 59]⟩ : ByteArray) ++ s).size = 2 + s.size := by rw [ByteArray.size_append]; rfl
  have e2 : ((⟨#[49, 59]⟩ : ByteArray) ++ s).size = 2 + s.size := by rw [ByteArray.size_append]; rfl
  rcases (show i = 0 ∨ i = 1 ∨ i = 2 ∨ i = 3 ∨ i = 4 ∨ i = 5 ∨ i = 6 ∨ i = 7 ∨ i = 8 ∨ i = 9 by omega) with rfl | rfl | rfl | rfl | rfl | rfl | rfl | rfl | rfl | rfl
  all_goals
    simp only [titleT, numT, aheadT, Int.reduceEq, reduceIte]
    go_enter Tryz.func10, Tryz.ntmps10
    go_wp2
    go_ret
    exact ⟨rfl, by first | exact Below.refl _ _ | exact (Below.refl _ w).alloc (Nat.le_refl _) _⟩

set_option maxHeartbeats 8000000 in
theorem made_da3 (s : ByteArray) (w : World) (hs : s.size ≤ 1000000) :
    Calls Tryz.prog 10 #[.int .i64 10, .string s] w fun e w' => e = .returned (.string (da3T s)) ∧ Below w.heap.size w w' := by
  by_cases c1 : s.toList = []
  · rw [show da3T s = ⟨#[27, 91, 61, 99]⟩ by unfold da3T; rw [if_pos c1]]
    go_enter Tryz.func10, Tryz.ntmps10
    go_wp2
    go_ret
    exact ⟨rfl, Below.refl _ _⟩
  by_cases c2 : s.toList = [48]
  · rw [show da3T s = ⟨#[27, 91, 61, 48, 99]⟩ by unfold da3T; rw [if_neg c1, if_pos c2]]
    go_enter Tryz.func10, Tryz.ntmps10
    go_wp2
    go_ret
    exact ⟨rfl, Below.refl _ _⟩
  have t3 : s.toList.isEmpty = false := by cases h : s.toList with
    | nil => exact absurd h c1
    | cons a t => rfl
  have t4 : (s.toList == ([48] : List UInt8)) = false := by simpa using c2
  have t5 : decide (s.toList = ([48] : List UInt8)) = false := decide_eq_false c2
  rw [show da3T s = ((⟨#[27, 80, 33, 124]⟩ : ByteArray) ++ s) ++ ⟨#[27, 92]⟩ by unfold da3T; rw [if_neg c1, if_neg c2]]
  go_enter Tryz.func10, Tryz.ntmps10
  go_wp2
  go_ret
  exact ⟨rfl, Below.refl _ _⟩

set_option maxHeartbeats 8000000 in
theorem made_status (s r : ByteArray) (w : World) (H : Calls Tryz.prog 28 #[.agg #[.string ⟨#[99, 108, 101, 97, 114]⟩, .string s, .string ⟨#[]⟩, .string ⟨#[]⟩, .int .i64 0, .bool false, .string ⟨#[]⟩, .string ⟨#[]⟩]] w fun e w' => e = .returned (.string r) ∧ Below w.heap.size w w') :
    Calls Tryz.prog 10 #[.int .i64 12, .string s] w fun e w' => e = .returned (.string r) ∧ Below w.heap.size w w' := by
  go_enter Tryz.func10, Tryz.ntmps10
  go_wp2_with fail
  refine H.mono ?_
  rintro e w1 ⟨rfl, hb⟩
  go_wp2
  go_ret
  exact ⟨rfl, hb⟩

theorem infoA5 : (Tryz.prog.info? 5).map (fun i => (i.zero, i.size, i.bytes)) = some (some (.int .u8 0), 1, 1) := by kernel_rfl
/-- Bytes as numbers. -/
def ubT (l : List UInt8) : List Int := l.map fun b => (b.toNat : Int)
theorem strOf_ubT (l : List UInt8) : strOfNums (ubT l) = ⟨l.toArray⟩ := by
  unfold strOfNums ubT
  congr 1
  congr 1
  rw [List.map_map]
  conv => rhs; rw [← List.map_id l]
  apply List.map_congr_left
  intro b _
  show UInt8.ofNat ((b.toNat : Int)).toNat = b
  simp
def headT : List Int := [27, 80, 116, 109, 117, 120, 59]
theorem ubT_append (a b : List UInt8) : ubT (a ++ b) = ubT a ++ ubT b := List.map_append

theorem bytes_at (s : ByteArray) (k : Nat) (hll : k < s.data.toList.length) : s.data.toList.drop k = s.data.toList[k] :: s.data.toList.drop (k + 1) := List.drop_eq_getElem_cons hll
theorem dbl_take (l : List UInt8) (k : Nat) (h : k < l.length) : dbl (l.take (k + 1)) = dbl (l.take k) ++ (if l[k] = 27 then [27, 27] else [l[k]]) := by
  rw [List.take_add_one, List.getElem?_eq_getElem h]
  generalize l.take k = a
  induction a with
  | nil =>
    show dbl [l[k]] = _
    unfold dbl
    split <;> simp [dbl]
  | cons c t ih =>
    show dbl (c :: (t ++ [l[k]])) = dbl (c :: t) ++ _
    have ih' : dbl (t ++ [l[k]]) = dbl t ++ (if l[k] = 27 then [27, 27] else [l[k]]) := ih
    unfold dbl
    rw [ih']
    split <;> simp
def rowT (s : ByteArray) (k : Nat) : List Int := headT ++ ubT (dbl (s.data.toList.take k))
theorem rowT_zero (s : ByteArray) : rowT s 0 = headT := rfl
theorem rowT_esc (s : ByteArray) (k : Nat) (h : k < s.data.toList.length) (hc : s.data.toList[k] = 27) : rowT s (k + 1) = rowT s k ++ [27] ++ [27] := by
  unfold rowT
  rw [dbl_take _ _ h, if_pos hc, ubT_append, ← List.append_assoc, List.append_assoc _ [27] [27]]
  rfl
theorem rowT_other (s : ByteArray) (k : Nat) (h : k < s.data.toList.length) (hc : ¬ s.data.toList[k] = 27) : rowT s (k + 1) = rowT s k ++ [(s.data.toList[k].toNat : Int)] := by
  unfold rowT
  rw [dbl_take _ _ h, if_neg hc, ubT_append, ← List.append_assoc]
  rfl
theorem rowT_len (s : ByteArray) (k : Nat) (h : s.size ≤ 1000000) : (rowT s k).length ≤ 2000007 := by
  unfold rowT ubT
  rw [List.length_append, List.length_map]
  have h1 := dbl_len (s.data.toList.take k)
  have h2 : (s.data.toList.take k).length ≤ s.size := by rw [List.length_take, Array.length_toList]; exact Nat.min_le_right _ _
  show 7 + _ ≤ _
  omega
theorem rowT_all (s : ByteArray) : strOfNums (rowT s s.size) ++ ⟨#[27, 92]⟩ = tmuxT s := by
  have ht : s.data.toList.take s.size = s.data.toList := List.take_of_length_le (by rw [Array.length_toList]; exact Nat.le_refl _)
  have e : rowT s s.size = ubT ([27, 80, 116, 109, 117, 120, 59] ++ dbl s.data.toList) := by
    unfold rowT
    rw [ht, ubT_append]
    rfl
  rw [e, strOf_ubT]
  unfold tmuxT dblB
  apply ByteArray.ext
  apply Array.toList_inj.1
  simp [ByteArray.data_append]

set_option maxHeartbeats 8000000 in
set_option maxRecDepth 100000 in
theorem made_tmux (s : ByteArray) (w : World) (hs : s.size ≤ 1000000) :
    Calls Tryz.prog 10 #[.int .i64 11, .string s] w fun e w' => e = .returned (.string (tmuxT s)) ∧ Below w.heap.size w w' := by
  have kc := fun (w : World) (C : Array Value) (n c : Nat) => Lib.run_convert_bytes_const (P := Tryz.prog) w 24 5 C n c Tryz.underlying24 Tryz.underlying5
  go_enter Tryz.func10, Tryz.ntmps10
  go_upto_region 11 with (fail)
  obtain ⟨W1, hW1⟩ : ∃ W, W = w.alloc (.cells #[.int .u8 27, .int .u8 80, .int .u8 116, .int .u8 109, .int .u8 117, .int .u8 120, .int .u8 59] 5 (7, 8)) := ⟨_, rfl⟩
  have hL : Lit.LR W1 w.heap.size (fun _ => True) (.slice (some ⟨w.heap.size, 0, none⟩) 7 7) headT := by
    rw [hW1]
    exact ⟨fun _ _ => trivial, w.heap.size, 7, rfl, Ext.C_lit w headT _ 5 (7, 8) rfl (by decide), Nat.le_refl _, by simp⟩
  have hB1 : Below w.heap.size w W1 := by rw [hW1]; exact (Below.refl _ w).alloc (Nat.le_refl _) _
  have hF : Lit.Full (.slice (some ⟨w.heap.size, 0, none⟩) 7 7) headT := ⟨_, rfl⟩
  rw [← hW1]
  obtain ⟨V0, hV0⟩ : ∃ V, V = Value.slice (some ⟨w.heap.size, 0, none⟩) 7 7 := ⟨_, rfl⟩
  rw [← hV0] at hL hF ⊢
  have HL := Lib.hid hL
  have HF := Lib.hid hF
  have HBW := Lib.hid hB1
  clear hW1 hL hB1 hF hV0 kc
  go_wp2_with fail
  go_loopw [5, 6] (fun v i wr => ∃ (k : Nat), i = .int .i64 k ∧ k ≤ s.size ∧ ((k = 0 ∧ wr = W1 ∧ v = V0) ∨ (0 < k ∧ Hid (Kd.R (Kd.int .u8) 5 wr w.heap.size (fun _ => True) v (rowT s k)) ∧ Hid (Below w.heap.size w wr)))) (fun _ i _ => s.size - (intOf i).toNat)
  case atStart => exact ⟨0, rfl, by omega, Or.inl ⟨rfl, rfl, rfl⟩⟩
  case round =>
    obtain ⟨k, rfl, hk, hor⟩ := hrel
    have hlen := rowT_len s k hs
    by_cases hlt : k < s.size
    · have tlt : decide ((k : Int) < (s.size : Int)) = true := decide_eq_true (by omega)
      have hll : k < s.data.toList.length := by rw [Array.length_toList]; exact hlt
      obtain ⟨c, hc⟩ : ∃ c, c = s.data.toList[k] := ⟨_, rfl⟩
      have hk0 : (0 : Int) ≤ (k : Int) := by omega
      have hbx : ∀ h : (k : Int).toNat < s.size, ((s[(k : Int).toNat]'h).toNat : Int) = (c.toNat : Int) := fun h => by rw [hc]; rfl
      have hby : ∀ h : k < s.size, ((s[k]'h).toNat : Int) = (c.toNat : Int) := fun h => by rw [hc]; rfl
      by_cases h27 : c = 27
      · have hrow := Lib.hid (rowT_esc s k hll (by rw [← hc]; exact h27))
        subst h27
        have hcc : ((27 : UInt8).toNat : Int) = 27 := rfl
        rw [hcc] at hbx hby
        clear hcc hc
        rcases hor with ⟨rfl, rfl, rfl⟩ | ⟨hkp, HO, HB⟩
        · have hr0 : Hid (rowT s 1 = headT ++ [27] ++ [27]) := Lib.hid hrow.out
          have hh2 : (headT ++ [27]).length = 8 := rfl
          go_wp2_with (first | ((with_reducible refine gate_builtin (b := .append) (xs := #[.tmp 28, .tmp 32]) rfl ?_); (try (refine gate_guard (by rfl) ?_; dsimp only)); at_builtin; refine Lit.lit_appendR w.heap.size rfl (.tmp 28) (.tmp 32) 24 (.int .u8 0) rfl Tryz.underlying24 infoA5 rfl _ headT 27 (fun _ => True) (fun _ => True) rfl rfl (fun _ _ => trivial) HF.out HL.out (by decide) ?_; intro v1 w3 ho hb; have HO5 := Lib.hid (Kd.R_lower ho HBW.out.size); have HB5 := Lib.hid (HBW.out.trans (hb.mono HBW.out.size)); clear ho hb) | ((with_reducible refine gate_builtin (b := .append) (xs := #[.tmp 38, .tmp 39]) rfl ?_); (try (refine gate_guard (by rfl) ?_; dsimp only)); at_builtin; refine Kd.R_append (Kd.int .u8) (w0 := w) w.heap.size rfl (.tmp 38) (.tmp 39) 24 5 (.int .u8 0) 1 rfl Tryz.underlying24 infoA5 rfl (by decide) (by omega) _ (headT ++ [27]) 27 [.int .u8 27] (fun _ => True) (fun _ => False) rfl rfl rfl (fun _ hk => hk.elim) (fun _ _ => trivial) HO5.out HB5.out HB5.out.size (by omega) ?_; intro v1 w3 ho hb _ _; have HO6 := Lib.hid ho; have HB6 := Lib.hid hb; clear ho hb))
          go_roundw
          case rel => exact ⟨1, by go_num, by omega, Or.inr ⟨by omega, Lib.hid (by rw [hr0.out]; exact HO6.out), HB6⟩⟩
          case measure => simp [intOf]; omega
        · have hl2 : (rowT s k ++ [27]).length ≤ 2000008 := by rw [List.length_append]; show _ + 1 ≤ _; omega
          go_wp2_with (first | ((with_reducible refine gate_builtin (b := .append) (xs := #[.tmp 28, .tmp 32]) rfl ?_); (try (refine gate_guard (by rfl) ?_; dsimp only)); at_builtin; refine Kd.R_append (Kd.int .u8) (w0 := w) w.heap.size rfl (.tmp 28) (.tmp 32) 24 5 (.int .u8 0) 1 rfl Tryz.underlying24 infoA5 rfl (by decide) (by omega) _ (rowT s k) 27 [.int .u8 27] (fun _ => True) (fun _ => False) rfl rfl rfl (fun _ hk => hk.elim) (fun _ _ => trivial) HO.out HB.out HB.out.size (by omega) ?_; intro v1 w3 ho hb _ _; have HO5 := Lib.hid ho; have HB5 := Lib.hid hb; clear ho hb) | ((with_reducible refine gate_builtin (b := .append) (xs := #[.tmp 38, .tmp 39]) rfl ?_); (try (refine gate_guard (by rfl) ?_; dsimp only)); at_builtin; refine Kd.R_append (Kd.int .u8) (w0 := w) w.heap.size rfl (.tmp 38) (.tmp 39) 24 5 (.int .u8 0) 1 rfl Tryz.underlying24 infoA5 rfl (by decide) (by omega) _ (rowT s k ++ [27]) 27 [.int .u8 27] (fun _ => True) (fun _ => False) rfl rfl rfl (fun _ hk => hk.elim) (fun _ _ => trivial) HO5.out HB5.out HB5.out.size (by omega) ?_; intro v1 w3 ho hb _ _; have HO6 := Lib.hid ho; have HB6 := Lib.hid hb; clear ho hb))
          go_roundw
          case rel => exact ⟨k + 1, by go_num, by omega, Or.inr ⟨by omega, Lib.hid (by rw [hrow.out]; exact HO6.out), HB6⟩⟩
          case measure => simp [intOf]; omega
      · have hrow := Lib.hid (rowT_other s k hll (by rw [← hc]; exact h27))
        rw [← hc] at hrow
        obtain ⟨C, hC⟩ : ∃ C : Int, C = (c.toNat : Int) := ⟨_, rfl⟩
        rw [← hC] at hbx hby hrow
        have hne : ¬ C = 27 := by
          intro e
          apply h27
          apply UInt8.toNat_inj.1
          rw [hC] at e
          have : c.toNat = 27 := by omega
          rw [this]; rfl
        have t27 : (C == 27) = false := by simpa using hne
        clear hC hc
        rcases hor with ⟨rfl, rfl, rfl⟩ | ⟨hkp, HO, HB⟩
        · have hr0 : Hid (rowT s 1 = headT ++ [C]) := Lib.hid hrow.out
          go_wp2_with (first | ((with_reducible refine gate_builtin (b := .append) (xs := #[.tmp 28, .tmp 32]) rfl ?_); (try (refine gate_guard (by rfl) ?_; dsimp only)); at_builtin; refine Lit.lit_appendR w.heap.size rfl (.tmp 28) (.tmp 32) 24 (.int .u8 0) rfl Tryz.underlying24 infoA5 rfl _ headT C (fun _ => True) (fun _ => True) rfl rfl (fun _ _ => trivial) HF.out HL.out (by decide) ?_; intro v1 w3 ho hb; have HO5 := Lib.hid (Kd.R_lower ho HBW.out.size); have HB5 := Lib.hid (HBW.out.trans (hb.mono HBW.out.size)); clear ho hb))
          go_wp2
          go_roundw
          case rel => exact ⟨1, by go_num, by omega, Or.inr ⟨by omega, Lib.hid (by rw [hr0.out]; exact HO5.out), HB5⟩⟩
          case measure => simp [intOf]; omega
        · go_wp2_with (first | ((with_reducible refine gate_builtin (b := .append) (xs := #[.tmp 28, .tmp 32]) rfl ?_); (try (refine gate_guard (by rfl) ?_; dsimp only)); at_builtin; refine Kd.R_append (Kd.int .u8) (w0 := w) w.heap.size rfl (.tmp 28) (.tmp 32) 24 5 (.int .u8 0) 1 rfl Tryz.underlying24 infoA5 rfl (by decide) (by omega) _ (rowT s k) C [.int .u8 C] (fun _ => True) (fun _ => False) rfl rfl rfl (fun _ hk => hk.elim) (fun _ _ => trivial) HO.out HB.out HB.out.size (by omega) ?_; intro v1 w3 ho hb _ _; have HO5 := Lib.hid ho; have HB5 := Lib.hid hb; clear ho hb))
          go_wp2
          go_roundw
          case rel => exact ⟨k + 1, by go_num, by omega, Or.inr ⟨by omega, Lib.hid (by rw [hrow.out]; exact HO5.out), HB5⟩⟩
          case measure => simp [intOf]; omega
    · have tlt : decide ((k : Int) < (s.size : Int)) = false := decide_eq_false (by omega)
      obtain rfl : k = s.size := by omega
      have hfin := Lib.hid (rowT_all s)
      have hsz : (strOfNums (rowT s s.size)).size ≤ 2000007 := by rw [strOfNums_size]; exact hlen
      rcases hor with ⟨hk0, rfl, rfl⟩ | ⟨hkp, HO, HB⟩
      · have hrow0 : rowT s s.size = headT := by rw [hk0]; exact rowT_zero s
        have hcv := Lit.LR_string (P := Tryz.prog) Tryz.underlying24 Tryz.underlying5 Tryz.underlying9 HL.out
        rw [← hrow0] at hcv
        clear hk0 hrow0
        go_wp2
        go_ret
        exact ⟨by rw [← hfin.out]; rfl, HBW.out⟩
      · have hcv := own_string (P := Tryz.prog) Tryz.underlying24 Tryz.underlying5 Tryz.underlying9 (Kd.own_of_R HO.out)
        go_wp2
        go_ret
        exact ⟨by rw [← hfin.out]; rfl, HB.out⟩
end Go.Proofs.YtjjkagjdbjpikaaGreatDoor.Or
