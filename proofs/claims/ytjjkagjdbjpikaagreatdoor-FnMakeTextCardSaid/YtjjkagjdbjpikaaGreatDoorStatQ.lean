/- Which ids are ids: the two loops over parts. No memory. -/
import Derived.Test.YtjjkagjdbjpikaaGreatDoorStatP
import Derived.Laws.Strings
namespace Go.Proofs.YtjjkagjdbjpikaaGreatDoor.Or
set_option linter.unusedVariables false
set_option linter.unusedSimpArgs false
open Go Go.RowKit Go.Proofs.YtjjkagjdbjpikaaGreatDoorW.PrintWords Go.Proofs.YtjjkagjdbjpikaaGreatDoorW.PrintLast Go.Proofs.YtjjkagjdbjpikaaGreatDoor.PV

namespace St
def mkB (l : List UInt8) : ByteArray := ⟨l.toArray⟩
theorem L_mk (l : List UInt8) : L (mkB l) = l := rfl
theorem mk_L (s : ByteArray) : mkB (L s) = s := rfl
def fi : List UInt8 → Option Nat
  | [] => none
  | c :: t => if c = 47 then some 0 else (fi t).map (· + 1)
theorem fi_none : ∀ l : List UInt8, fi l = none → ∀ c ∈ l, c ≠ 47
  | [], _, c, hc => by cases hc
  | x :: t, h, c, hc => by
    unfold fi at h
    by_cases hx : x = 47
    · rw [if_pos hx] at h; cases h
    · rw [if_neg hx] at h
      have ht : fi t = none := by
        cases hf : fi t with
        | none => rfl
        | some q => rw [hf] at h; cases h
      rcases List.mem_cons.1 hc with rfl | hc
      · exact hx
      · exact fi_none t ht c hc
theorem fi_some : ∀ (l : List UInt8) (q : Nat), fi l = some q → q < l.length ∧ l = l.take q ++ 47 :: l.drop (q + 1) ∧ ∀ c ∈ l.take q, c ≠ 47
  | [], q, h => by cases h
  | x :: t, q, h => by
    unfold fi at h
    by_cases hx : x = 47
    · rw [if_pos hx] at h
      obtain rfl := Option.some.inj h
      subst hx
      exact ⟨by simp, by simp, fun c hc => by simp at hc⟩
    · rw [if_neg hx] at h
      cases hf : fi t with
      | none => rw [hf] at h; cases h
      | some r =>
        rw [hf] at h
        obtain rfl := Option.some.inj h
        obtain ⟨h1, h2, h3⟩ := fi_some t r hf
        refine ⟨by simp; omega, ?_, fun c hc => ?_⟩
        · show x :: t = (x :: t).take (r + 1) ++ 47 :: (x :: t).drop (r + 1 + 1)
          rw [List.take_succ_cons, List.drop_succ_cons, List.cons_append, ← h2]
        · rw [List.take_succ_cons] at hc
          rcases List.mem_cons.1 hc with rfl | hc
          · exact hx
          · exact h3 c hc
def pos (j : Nat) : Option Nat → Int
  | none => -1
  | some q => ((j + q : Nat) : Int)
theorem index (s : ByteArray) (hs : s.size ≤ 1000000) : ∀ (m j : Nat), j + m = s.size → Ev fun k => xansi_zzIndex.l0 k s (⟨#[47]⟩ : ByteArray) (j : Int) = some (pos j (fi ((L s).drop j)))
  | 0, j, hj => Ev.one fun k => by
    have hz : (((⟨#[47]⟩ : ByteArray).size : Nat) : Int) = 1 := rfl
    have hw : wrap64 ((j : Int) + 1) = ((j + 1 : Nat) : Int) := w64 (by omega) (by omega)
    unfold xansi_zzIndex.l0
    rw [hz, hw, if_neg (by omega), List.drop_eq_nil_of_le (by rw [L_len]; omega)]
    rfl
  | m + 1, j, hj => by
    have hl : j < (L s).length := by rw [L_len]; omega
    have hz : (((⟨#[47]⟩ : ByteArray).size : Nat) : Int) = 1 := rfl
    have hw : wrap64 ((j : Int) + 1) = ((j + 1 : Nat) : Int) := w64 (by omega) (by omega)
    have he : (s.extract j (j + 1)).toList = [(L s)[j]] := by
      rw [ByteArray.toList_eq]
      show L (s.extract j (j + 1)) = _
      rw [L_ext s j (j + 1) (by omega), drop_cons _ _ hl, show j + 1 - j = 1 by omega]
      rfl
    have h47 : (⟨#[47]⟩ : ByteArray).toList = [47] := by rw [ByteArray.toList_eq]
    refine (index s hs m (j + 1) (by omega)).succ fun k h => ?_
    unfold xansi_zzIndex.l0
    rw [hz, hw, if_pos (by omega), if_pos (by omega), if_pos (by omega), Int.toNat_natCast, Int.toNat_natCast, he, h47, drop_cons _ _ hl]
    generalize (L s)[j] = c
    unfold fi
    by_cases hc : c = 47
    · subst hc
      rw [if_pos rfl, if_pos rfl]
      rfl
    · rw [if_neg (by simpa using hc), if_neg hc, h]
      cases fi ((L s).drop (j + 1)) with
      | none => rfl
      | some q =>
        show some (((j + 1 + q : Nat)) : Int) = some ((j + (q + 1) : Nat) : Int)
        congr 2
        omega
theorem splits : ∀ (n : Nat) (s : ByteArray) (acc : List ByteArray), s.size ≤ n → s.size ≤ 1000000 → acc.length + s.size ≤ 2000000 → Ev fun k => xansi_zzSplit.l1 k s (⟨#[47]⟩ : ByteArray) acc = some (acc ++ (splitL (L s)).map mkB) := by
  intro n
  induction n with
  | zero =>
    intro s acc hn hs ha
    have hi := index s hs s.size 0 (by omega)
    have hl : L s = [] := List.eq_nil_of_length_eq_zero (by rw [L_len]; omega)
    rw [List.drop_zero] at hi
    refine hi.succ fun k h => ?_
    have h' : xansi_zzIndex.f k s (⟨#[47]⟩ : ByteArray) = some (-1) := by
      have : fi (L s) = none := by rw [hl]; rfl
      rw [this] at h
      exact h
    unfold xansi_zzSplit.l1
    rw [h', Option.bind_some, if_pos (by omega), if_pos (by omega), split_none (L s) (by rw [hl]; intro c hc; cases hc)]
    show some (acc ++ [s]) = some (acc ++ [mkB (L s)])
    rw [mk_L]
  | succ n ih =>
    intro s acc hn hs ha
    have hi := index s hs s.size 0 (by omega)
    rw [List.drop_zero] at hi
    cases hf : fi (L s) with
    | none =>
      rw [hf] at hi
      refine hi.succ fun k h => ?_
      have h' : xansi_zzIndex.f k s (⟨#[47]⟩ : ByteArray) = some (-1) := h
      unfold xansi_zzSplit.l1
      rw [h', Option.bind_some, if_pos (by omega), if_pos (by omega), split_none (L s) (fi_none _ hf)]
      show some (acc ++ [s]) = some (acc ++ [mkB (L s)])
      rw [mk_L]
    | some q =>
      rw [hf] at hi
      obtain ⟨h1, h2, h3⟩ := fi_some _ q hf
      rw [L_len] at h1
      have hsp : splitL (L s) = (L s).take q :: splitL ((L s).drop (q + 1)) := by
        conv => lhs; rw [h2]
        exact split_at _ _ h3
      have hx : s.extract (q + 1) s.size = mkB ((L s).drop (q + 1)) := by
        rw [← mk_L (s.extract (q + 1) s.size), L_ext s (q + 1) s.size (by omega), List.take_of_length_le (by rw [List.length_drop, L_len]; omega)]
      have hy : s.extract 0 q = mkB ((L s).take q) := by
        rw [← mk_L (s.extract 0 q), L_ext s 0 q (by omega)]
        rfl
      have hxs : (s.extract (q + 1) s.size).size = s.size - (q + 1) := by rw [ByteArray.size_extract]; omega
      have hr := ih (s.extract (q + 1) s.size) (acc ++ [s.extract 0 q]) (by omega) (by omega) (by rw [List.length_append, hxs]; show acc.length + 1 + _ ≤ _; omega)
      refine (hi.and hr).succ fun k h => ?_
      have h' : xansi_zzIndex.f k s (⟨#[47]⟩ : ByteArray) = some ((q : Nat) : Int) := by
        have := h.1
        have e : pos 0 (some q) = ((q : Nat) : Int) := by show (((0 + q : Nat)) : Int) = _; rw [Nat.zero_add]
        rw [e] at this
        exact this
      have hz : (((⟨#[47]⟩ : ByteArray).size : Nat) : Int) = 1 := rfl
      have hw : wrap64 ((q : Int) + 1) = ((q + 1 : Nat) : Int) := w64 (by omega) (by omega)
      unfold xansi_zzSplit.l1
      rw [h', Option.bind_some, if_neg (by omega), if_pos (by omega), if_pos (by omega), if_pos (by omega), hz, hw, if_pos (by omega), if_pos (by omega), Int.toNat_natCast, Int.toNat_natCast, h.2, hsp, List.map_cons, List.append_assoc, hx, hy, L_mk]
      rfl
theorem valids (ps : List ByteArray) (hp : ∀ p ∈ ps, p.size ≤ 1000000) (hl : ps.length ≤ 100) : ∀ (m j : Nat), j + m = ps.length → Ev fun k => xansi_validProgramStatusID.l0 k ps (ps.length : Int) (j : Int) = some ((ps.drop j).all fun p => okSeg (L p))
  | 0, j, hj => Ev.one fun k => by
    unfold xansi_validProgramStatusID.l0
    rw [if_neg (by omega), List.drop_eq_nil_of_le (by omega)]
    rfl
  | m + 1, j, hj => by
    have hr : rdOf ByteArray.empty ps (j : Int) = ps[j] := by
      unfold rdOf
      rw [Int.toNat_natCast, List.getD_eq_getElem?_getD, List.getElem?_eq_getElem (by omega)]
      rfl
    have hv := vsegment ps[j] (hp _ (List.getElem_mem (by omega)))
    refine (hv.and (valids ps hp hl m (j + 1) (by omega))).succ fun k h => ?_
    unfold xansi_validProgramStatusID.l0
    rw [if_pos (by omega), if_pos (by omega), if_pos (by omega), hr, h.1, Option.bind_some, w64 (x := (j : Int) + 1) (by omega) (by omega), List.drop_eq_getElem_cons (by omega), List.all_cons]
    cases okSeg (L ps[j]) with
    | true => rw [if_pos rfl, Bool.true_and]; exact h.2
    | false => rw [if_neg (by decide), Bool.false_and]
theorem split_sizes : ∀ l : List UInt8, ∀ p ∈ splitL l, p.length ≤ l.length
  | [], p, hp => by
    obtain rfl := List.mem_singleton.1 hp
    exact Nat.le_refl _
  | c :: t, p, hp => by
    unfold splitL at hp
    by_cases hc : c = 47
    · rw [if_pos hc] at hp
      rcases List.mem_cons.1 hp with rfl | hp
      · simp
      · have := split_sizes t p hp; simp; omega
    · rw [if_neg hc] at hp
      have ih := split_sizes t
      cases hs : splitL t with
      | nil => rw [hs] at hp; obtain rfl := List.mem_singleton.1 hp; simp
      | cons h r =>
        rw [hs] at hp ih
        rcases List.mem_cons.1 hp with rfl | hp
        · have := ih h (by simp); simp; omega
        · have := ih p (by simp [hp]); simp; omega
theorem valid (s : ByteArray) (hs : s.size ≤ 1000000) : Ev fun k => xansi_validProgramStatusID.f k s = some (okID (L s)) := by
  unfold xansi_validProgramStatusID.f okID
  rw [L_len]
  by_cases h1 : (s.size : Int) > 128
  · refine Ev.all fun k => ?_
    rw [if_pos h1, decide_eq_false (by omega)]
    rfl
  have hsp := splits s.size s [] (Nat.le_refl _) hs (by rw [List.length_nil]; omega)
  rw [List.nil_append] at hsp
  obtain ⟨ps, hps⟩ : ∃ ps, ps = (splitL (L s)).map mkB := ⟨_, rfl⟩
  have hlen : ps.length = (splitL (L s)).length := by rw [hps, List.length_map]
  have hall : (ps.all fun p => okSeg (L p)) = (splitL (L s)).all okSeg := by
    rw [hps, List.all_map]
    rfl
  have hsz : ∀ p ∈ ps, p.size ≤ 1000000 := by
    intro p hp
    rw [hps] at hp
    obtain ⟨l, hl, rfl⟩ := List.mem_map.1 hp
    have := split_sizes _ l hl
    rw [L_len] at this
    have e : (mkB l).size = l.length := List.size_toArray
    omega
  rw [← hps] at hsp
  rw [decide_eq_true (p := s.size ≤ 128) (by omega), Bool.true_and]
  by_cases h8 : (ps.length : Int) > 8
  · refine hsp.imp fun k h => ?_
    have h' : xansi_zzSplit.f k s (⟨#[47]⟩ : ByteArray) = some ps := by unfold xansi_zzSplit.f; rw [if_neg (show ¬ (((⟨#[47]⟩ : ByteArray).size : Nat) : Int) = 0 from by decide)]; exact h
    rw [if_neg h1, h', Option.bind_some, if_pos h8, decide_eq_false (by omega)]
    rfl
  · refine (hsp.and (valids ps hsz (by omega) ps.length 0 (by omega))).imp fun k h => ?_
    have h' : xansi_zzSplit.f k s (⟨#[47]⟩ : ByteArray) = some ps := by unfold xansi_zzSplit.f; rw [if_neg (show ¬ (((⟨#[47]⟩ : ByteArray).size : Nat) : Int) = 0 from by decide)]; exact h.1
    rw [if_neg h1, h', Option.bind_some, if_neg h8, decide_eq_true (p := (splitL (L s)).length ≤ 8) (by omega), Bool.true_and, ← hall]
    exact h.2

theorem j1_true (k : Nat) (s : ByteArray) (n f i : Int) : spec_isStatusID.j1 (k + 1) s n f i true = spec_isStatusID.l0 k s n f (wrap64 (i + 1)) := rfl
theorem j1_false (k : Nat) (s : ByteArray) (n f i : Int) : spec_isStatusID.j1 (k + 1) s n f i false = (if 0 ≤ f then (if f ≤ i then (if i ≤ (s.size : Int) then ((spec_isPart.f k (s.extract (f : Int).toNat (i : Int).toNat)).bind fun t118 => (if t118 = true then (spec_isStatusID.l0 k s (wrap64 (n + 1)) (wrap64 (i + 1)) (wrap64 (i + 1))) else (some false))) else (none)) else (none)) else (none)) := rfl
theorem endID (s : ByteArray) (n : Int) (hs : s.size ≤ 1000000) : Ev fun k => spec_isStatusID.l0 k s n ((s.size + 1 : Nat) : Int) ((s.size + 1 : Nat) : Int) = some (decide (n ≤ 8) && decide (s.size ≤ 128)) := Ev.one fun k => by
  unfold spec_isStatusID.l0
  rw [if_neg (by omega)]
  by_cases h : n ≤ 8
  · rw [if_pos h, decide_eq_true h, Bool.true_and]
    congr 1
    by_cases h2 : s.size ≤ 128
    · rw [decide_eq_true h2, decide_eq_true (by omega)]
    · rw [decide_eq_false h2, decide_eq_false (by omega)]
  · rw [if_neg h, decide_eq_false h]; rfl
theorem sid (s : ByteArray) (hs : s.size ≤ 1000000) : ∀ (m i f : Nat) (n : Int), i + m = s.size → f ≤ i → (∀ c ∈ ((L s).drop f).take (i - f), c ≠ 47) → 0 ≤ n → n ≤ (i : Int) →
    Ev fun k => spec_isStatusID.l0 k s n (f : Int) (i : Int) = some ((splitL ((L s).drop f)).all okSeg && (decide (n + ((splitL ((L s).drop f)).length : Int) ≤ 8) && decide (s.size ≤ 128)))
  | 0, i, f, n, hi, hf, hc, hn0, hn => by
    have hall : ((L s).drop f).take (i - f) = (L s).drop f := List.take_of_length_le (by rw [List.length_drop, L_len]; omega)
    rw [hall] at hc
    have hsp := split_none _ hc
    have he : L (s.extract f i) = (L s).drop f := by rw [L_ext s f i (by omega), hall]
    have hp := spartf (s.extract f i) (by rw [ByteArray.size_extract]; omega)
    rw [he] at hp
    have hend := endID s (n + 1) hs
    have hw : wrap64 ((i : Int) + 1) = ((s.size + 1 : Nat) : Int) := by rw [w64 (by omega) (by omega)]; omega
    have hwn : wrap64 (n + 1) = n + 1 := w64 (by omega) (by omega)
    have hj : Ev fun k => spec_isStatusID.j1 k s n (f : Int) (i : Int) false = some ((splitL ((L s).drop f)).all okSeg && (decide (n + ((splitL ((L s).drop f)).length : Int) ≤ 8) && decide (s.size ≤ 128))) := (hp.and hend).succ fun k h => by
      rw [j1_false, if_pos (by omega), if_pos (by omega), if_pos (by omega), Int.toNat_natCast, Int.toNat_natCast, h.1, Option.bind_some, hw, hwn, hsp]
      cases hk : okSeg ((L s).drop f) with
      | true =>
        rw [if_pos rfl, h.2]
        simp only [List.all_cons, List.all_nil, hk, Bool.true_and, Bool.and_true, List.length_cons, List.length_nil]
        rfl
      | false =>
        rw [if_neg (by decide)]
        simp only [List.all_cons, hk, Bool.false_and]
    refine hj.succ fun k h => ?_
    unfold spec_isStatusID.l0
    rw [if_pos (by omega), if_neg (by omega)]
    exact h
  | m + 1, i, f, n, hi, hf, hc, hn0, hn => by
    have hl : i < (L s).length := by rw [L_len]; omega
    have hb := bt_L s i hl
    have hw : wrap64 ((i : Int) + 1) = ((i + 1 : Nat) : Int) := w64 (by omega) (by omega)
    have hwn : wrap64 (n + 1) = n + 1 := w64 (by omega) (by omega)
    by_cases h47 : (L s)[i] = 47
    · have hcat : (L s).drop f = ((L s).drop f).take (i - f) ++ 47 :: (L s).drop (i + 1) := by
        have h1 := (List.take_append_drop (i - f) ((L s).drop f)).symm
        rw [List.drop_drop, show f + (i - f) = i by omega, drop_cons _ _ hl, h47] at h1
        exact h1
      have hsp : splitL ((L s).drop f) = ((L s).drop f).take (i - f) :: splitL ((L s).drop (i + 1)) := by
        conv => lhs; rw [hcat]
        exact split_at _ _ hc
      have he : L (s.extract f i) = ((L s).drop f).take (i - f) := L_ext s f i (by omega)
      have hp := spartf (s.extract f i) (by rw [ByteArray.size_extract]; omega)
      rw [he] at hp
      have hr := sid s hs m (i + 1) (i + 1) (n + 1) (by omega) (Nat.le_refl _) (fun c hc => by rw [Nat.sub_self] at hc; cases hc) (by omega) (by omega)
      have hj : Ev fun k => spec_isStatusID.j1 k s n (f : Int) (i : Int) false = some ((splitL ((L s).drop f)).all okSeg && (decide (n + ((splitL ((L s).drop f)).length : Int) ≤ 8) && decide (s.size ≤ 128))) := (hp.and hr).succ fun k h => by
        rw [j1_false, if_pos (by omega), if_pos (by omega), if_pos (by omega), Int.toNat_natCast, Int.toNat_natCast, h.1, Option.bind_some, hw, hwn, hsp, List.all_cons, List.length_cons]
        cases hk : okSeg (((L s).drop f).take (i - f)) with
        | true =>
          rw [if_pos rfl, h.2, Bool.true_and, show n + 1 + ((splitL ((L s).drop (i + 1))).length : Int) = n + (((splitL ((L s).drop (i + 1))).length + 1 : Nat) : Int) by omega]
        | false => rw [if_neg (by decide), Bool.false_and, Bool.false_and]
      refine hj.succ fun k h => ?_
      unfold spec_isStatusID.l0
      rw [if_pos (by omega), if_pos (by omega), if_pos (by omega), hb, h47]
      exact h
    · have hr := sid s hs m (i + 1) f n (by omega) (by omega) (fun c hc2 => by
        rw [show i + 1 - f = (i - f) + 1 by omega, List.take_add_one] at hc2
        rcases List.mem_append.1 hc2 with h | h
        · exact hc c h
        · rw [List.getElem?_drop, show f + (i - f) = i by omega, List.getElem?_eq_getElem hl] at h
          obtain rfl := List.mem_singleton.1 h
          exact h47) hn0 (by omega)
      have hne : (((L s)[i].toNat : Int) != 47) = true := by
        rw [bne_iff_ne]
        intro e
        apply h47
        apply UInt8.toNat_inj.1
        have : (L s)[i].toNat = 47 := by omega
        rw [this]; rfl
      have hj : Ev fun k => spec_isStatusID.j1 k s n (f : Int) (i : Int) true = some ((splitL ((L s).drop f)).all okSeg && (decide (n + ((splitL ((L s).drop f)).length : Int) ≤ 8) && decide (s.size ≤ 128))) := hr.succ fun k h => by
        rw [j1_true, hw]
        exact h
      refine hj.succ fun k h => ?_
      unfold spec_isStatusID.l0
      rw [if_pos (by omega), if_pos (by omega), if_pos (by omega), hb, hne]
      exact h
theorem isID (s : ByteArray) (hs : s.size ≤ 1000000) : Ev fun k => spec_isStatusID.f k s = some (okID (L s)) := by
  have h := sid s hs s.size 0 0 0 (by omega) (Nat.le_refl _) (fun c hc => by simp at hc) (by omega) (by omega)
  rw [List.drop_zero] at h
  refine h.imp fun k hk => ?_
  have hk' : spec_isStatusID.l0 k s 0 0 0 = _ := hk
  unfold spec_isStatusID.f
  rw [hk']
  unfold okID
  rw [L_len]
  congr 1
  have e : decide ((0 : Int) + ((splitL (L s)).length : Int) ≤ 8) = decide ((splitL (L s)).length ≤ 8) := by
    by_cases h8 : (splitL (L s)).length ≤ 8
    · rw [decide_eq_true h8, decide_eq_true (by omega)]
    · rw [decide_eq_false h8, decide_eq_false (by omega)]
  rw [e]
  cases (splitL (L s)).all okSeg <;> cases decide ((splitL (L s)).length ≤ 8) <;> cases decide (s.size ≤ 128) <;> rfl
end St
end Go.Proofs.YtjjkagjdbjpikaaGreatDoor.Or
