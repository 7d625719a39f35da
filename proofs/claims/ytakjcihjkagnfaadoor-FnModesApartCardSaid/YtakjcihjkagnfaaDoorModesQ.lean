/- A sequence of modes of one kind, read by the reference: plain. -/
import Derived.Test.YtakjcihjkagnfaaDoorModesR
import Derived.Test.YtakjcihjkagnfaaDoorReadP
namespace Go.Proofs.YtakjcihjkagnfaaDoor.Mo
set_option linter.unusedVariables false
set_option linter.unusedSimpArgs false
open Go Go.RowKit Go.Proofs.YtakjcihjkagnfaaDoor.PM Go.Proofs.YtakjcihjkagnfaaDoor.Or Go.Proofs.YtakjcihjkagnfaaDoor.Dig Go.Proofs.YtakjcihjkagnfaaDoor.Mp Go.Proofs.YtakjcihjkagnfaaDoorW.PrintWords Go.Proofs.YtakjcihjkagnfaaDoorW.PrintLast Go.Proofs.YtakjcihjkagnfaaDoorW.PrintMore

/-- The bytes of further numbers, each behind a semicolon. -/
def JT (t : List Nat) : List Int := t.flatMap (fun u => 59 :: DG u)
theorem JT_cons (u : Nat) (t : List Nat) : JT (u :: t) = 59 :: (DG u ++ JT t) := by
  unfold JT
  rw [List.flatMap_cons]
  rfl
def pr (u : Nat) : S36 := ⟨(u : Int), false, false⟩
theorem scan_list (f : Int) (hf : 64 ≤ f) : ∀ (t : List Nat) (u : Nat) (acc : List S36) (m : Bool), u ≤ 1000000 → (∀ x ∈ t, x ≤ 1000000) → ∃ (a : List S36) (v : Nat), scanP (DG u ++ (JT t ++ [f])) acc 0 m = some (a, (v : Int), false, [f]) ∧ a ++ [pr v] = acc ++ (pr u :: t.map pr) := by
  intro t
  induction t with
  | nil =>
    intro u acc m hu ht
    refine ⟨acc, u, ?_, rfl⟩
    rw [scan_dig u _ _ _ hu]
    exact scan_end' f (by omega) [] acc (u : Int) false
  | cons x t ih =>
    intro u acc m hu ht
    obtain ⟨a, v, h1, h2⟩ := ih x (acc ++ [pr u]) true (ht x List.mem_cons_self) (fun y hy => ht y (List.mem_cons_of_mem _ hy))
    refine ⟨a, v, ?_, ?_⟩
    · rw [scan_dig u _ _ _ hu, JT_cons, List.cons_append, scan_semi', List.append_assoc]
      exact h1
    · rw [h2, List.append_assoc]
      rfl
theorem bytes_jn (t : List Nat) : ∀ acc : ByteArray, bytesOf (jn ⟨#[59]⟩ acc (t.map fun u : Nat => dig (u : Int))) = bytesOf acc ++ JT t := by
  induction t with
  | nil => intro acc; rw [show JT [] = [] from rfl, List.append_nil]; rfl
  | cons u t ih =>
    intro acc
    rw [List.map_cons]
    show bytesOf (jn ⟨#[59]⟩ ((acc ++ ⟨#[59]⟩) ++ dig (u : Int)) _) = _
    rw [ih, bytes_app, bytes_app, JT_cons, show bytesOf (dig (u : Int)) = DG u from bytes_dig u]
    rw [show bytesOf (⟨#[59]⟩ : ByteArray) = [59] from rfl, List.append_assoc, List.append_assoc]
    rfl
theorem read_list (b : Bool) (f : UInt8) (h0 : 64 ≤ f.toNat) (h1 : f.toNat ≤ 126) (u : Nat) (t : List Nat) (hu : u ≤ 1000000) (ht : ∀ x ∈ t, x ≤ 1000000) (T : ByteArray)
    (hT : T = (((⟨#[27, 91]⟩ : ByteArray) ++ mkT b) ++ join ⟨#[59]⟩ ((u :: t).map fun u : Nat => dig (u : Int))) ++ ⟨#[f]⟩) (hs : T.size ≤ 100000) :
    spec_ReadSequence.f (bytesOf T) = some (1, if b = true then 63 else 0, (u :: t).map pr, [], (f.toNat : Int), [], false, true) := by
  obtain ⟨a, v, hsc, hps⟩ := scan_list (f.toNat : Int) (by omega) t u [] true hu ht
  have hb : bytesOf T = 27 :: 91 :: ((if b = true then [63] else []) ++ (DG u ++ (JT t ++ [(f.toNat : Int)]))) := by
    rw [hT, bytes_app, bytes_app, bytes_app]
    have e1 : bytesOf (join ⟨#[59]⟩ ((u :: t).map fun u : Nat => dig (u : Int))) = DG u ++ JT t := by
      rw [List.map_cons]
      show bytesOf (jn ⟨#[59]⟩ (dig (u : Int)) _) = _
      rw [bytes_jn, show bytesOf (dig (u : Int)) = DG u from bytes_dig u]
    have e2 : bytesOf (mkT b) = if b = true then [63] else [] := by cases b <;> rfl
    rw [e1, e2, show bytesOf (⟨#[27, 91]⟩ : ByteArray) = [27, 91] from rfl, show bytesOf (⟨#[f]⟩ : ByteArray) = [(f.toNat : Int)] from rfl]
    simp [List.append_assoc]
  have hl : (DG u ++ (JT t ++ [(f.toNat : Int)])).length ≥ 2 := by
    obtain ⟨c, t', e, _⟩ := DG_cons u
    rw [e]
    simp
    omega
  have hbody : body ((if b = true then [63] else []) ++ (DG u ++ (JT t ++ [(f.toNat : Int)]))) = some (if b = true then 63 else 0, (u :: t).map pr, [], (f.toNat : Int)) := by
    unfold body
    have hp : pre ((if b = true then [63] else []) ++ (DG u ++ (JT t ++ [(f.toNat : Int)]))) = (if b = true then 63 else 0, DG u ++ (JT t ++ [(f.toNat : Int)])) := by
      cases b with
      | true => rfl
      | false => exact pre_dig u _
    simp only [hp, hsc, scanI_stop _ (by omega : (64 : Int) ≤ (f.toNat : Int))]
    rw [if_pos (show (64 : Int) ≤ (f.toNat : Int) ∧ (f.toNat : Int) ≤ 126 by omega), if_pos (show [(f.toNat : Int)].length < (DG u ++ (JT t ++ [(f.toNat : Int)])).length by show 1 < _; omega)]
    have h3 : a ++ [(⟨(v : Int), false, false⟩ : S36)] = (u :: t).map pr := by
      have := hps
      rw [List.nil_append] at this
      exact this
    rw [h3]
  unfold spec_ReadSequence.f
  rw [if_pos (by rw [bytesOf_length]; omega), hb]
  rw [show ∀ r, readT (27 :: 91 :: r) = body r from fun _ => rfl, hbody]
  rfl

/-- The modes of one kind. -/
def lb (b : Bool) (l : List S31) : List S31 := l.filter (fun s => s.f0 == b)
theorem kin_lb (b : Bool) (l : List S31) : kin b l = (lb b l).map (fun s => dig s.f1) := rfl
theorem lb_lb (b : Bool) (l : List S31) : lb b (lb b l) = lb b l := by
  unfold lb
  rw [List.filter_filter]
  congr 1
  funext s
  simp
theorem lb_other (b : Bool) (l : List S31) : lb (!b) (lb b l) = [] := by
  unfold lb
  rw [List.filter_filter, List.filter_eq_nil_iff]
  intro s _
  cases s.f0 <;> cases b <;> simp
theorem set_of (r : Bool) (l : List S31) : setT r l =
    (if 0 < (kin true l).length then (if 0 < (kin false l).length then (⟨#[]⟩ : ByteArray) ++ (((⟨#[27, 91]⟩ : ByteArray) ++ join ⟨#[59]⟩ (kin false l)) ++ cmdT r) else ⟨#[]⟩) ++ ((((⟨#[27, 91]⟩ : ByteArray) ++ ⟨#[63]⟩) ++ join ⟨#[59]⟩ (kin true l)) ++ cmdT r)
      else (if 0 < (kin false l).length then (⟨#[]⟩ : ByteArray) ++ (((⟨#[27, 91]⟩ : ByteArray) ++ join ⟨#[59]⟩ (kin false l)) ++ cmdT r) else ⟨#[]⟩)) := by
  cases r with
  | true => rw [set_is true 1 rfl (by decide) l, made_is 1 (by decide) l]; rfl
  | false => rw [set_is false 0 rfl (by decide) l, made_is 0 (by decide) l]; rfl
theorem kin_lb_same (b : Bool) (l : List S31) : kin b (lb b l) = kin b l := by rw [kin_lb, lb_lb]; rfl
theorem kin_lb_not (b : Bool) (l : List S31) : kin (!b) (lb b l) = [] := by rw [kin_lb, lb_other]; rfl
theorem set_kind (r b : Bool) (l : List S31) (h : 0 < (lb b l).length) : setT r (lb b l) = ((((⟨#[27, 91]⟩ : ByteArray) ++ mkT b) ++ join ⟨#[59]⟩ (kin b l)) ++ cmdT r) := by
  have hk : 0 < (kin b l).length := by rw [kin_lb, List.length_map]; exact h
  rw [set_of]
  cases b with
  | true =>
    rw [kin_lb_same true l, show kin false (lb true l) = [] from kin_lb_not true l, if_pos hk, if_neg (by decide), none_app]
    rfl
  | false =>
    rw [kin_lb_same false l, show kin true (lb false l) = [] from kin_lb_not false l, if_neg (by decide), if_pos hk, none_app, show mkT false = ⟨#[]⟩ from rfl, app_none]
/-- What is gathered of both kinds. -/
def both0 (r : Bool) (l : List S31) : ByteArray := if 0 < (lb false l).length then (⟨#[]⟩ : ByteArray) ++ setT r (lb false l) else ⟨#[]⟩
def both1 (r : Bool) (l : List S31) : ByteArray := if 0 < (lb true l).length then both0 r l ++ setT r (lb true l) else both0 r l
theorem both_is (r : Bool) (l : List S31) : setT r l = both1 r l := by
  rw [set_of]
  unfold both1 both0
  have e1 : (kin true l).length = (lb true l).length := by rw [kin_lb, List.length_map]
  have e0 : (kin false l).length = (lb false l).length := by rw [kin_lb, List.length_map]
  rw [e1, e0]
  by_cases h1 : 0 < (lb true l).length
  · rw [if_pos h1, if_pos h1, set_kind r true l h1]
    by_cases h0 : 0 < (lb false l).length
    · rw [if_pos h0, if_pos h0, set_kind r false l h0, show mkT false = ⟨#[]⟩ from rfl, app_none]
      rfl
    · rw [if_neg h0, if_neg h0]
      rfl
  · rw [if_neg h1, if_neg h1]
    by_cases h0 : 0 < (lb false l).length
    · rw [if_pos h0, if_pos h0, set_kind r false l h0, show mkT false = ⟨#[]⟩ from rfl, app_none]
    · rw [if_neg h0, if_neg h0]
def InA (l : List S31) : Prop := ∀ s ∈ l, 0 ≤ s.f1 ∧ s.f1 ≤ 100000
theorem InA.m {l : List S31} (h : InA l) : InM l := fun s hs => by have := h s hs; omega
theorem InA.lb {l : List S31} (h : InA l) (b : Bool) : InA (lb b l) := fun s hs => h s (List.mem_filter.1 hs).1
theorem set_size (r b : Bool) (l : List S31) (hl : l.length ≤ 30) (h : InA l) : (setT r (lb b l)).size ≤ 700 := by
  by_cases h0 : 0 < (lb b l).length
  · rw [set_kind r b l h0]
    have h1 := join_size ⟨#[59]⟩ rfl _ (kin_sizes h.m b)
    have h2 := kin_len b l
    have h3 := mk_size b
    have h4 : (cmdT r).size = 1 := by cases r <;> rfl
    have h5 : (⟨#[27, 91]⟩ : ByteArray).size = 2 := rfl
    simp only [ByteArray.size_append]
    omega
  · have e : lb b l = [] := List.length_eq_zero_iff.1 (by omega)
    rw [e]
    cases r <;> decide
def fin (r : Bool) : Int := if r = true then 108 else 104
/-- What is read of the modes of one kind. -/
theorem read_kind (r b : Bool) (l : List S31) (h : 0 < (lb b l).length) (hl : l.length ≤ 30) (hi : InA l) : spec_ReadSequence.f (bytesOf (setT r (lb b l))) = some (1, if b = true then 63 else 0, (lb b l).map (fun s => (⟨s.f1, false, false⟩ : S36)), [], fin r, [], false, true) := by
  have hsz := set_size r b l hl hi
  have hT := set_kind r b l h
  rw [kin_lb] at hT
  have hia := hi.lb b
  obtain ⟨k, hk⟩ : ∃ k, k = lb b l := ⟨_, rfl⟩
  rw [← hk] at h hia hT hsz ⊢
  cases k with
  | nil => simp at h
  | cons s t =>
    have hn : ∀ x ∈ s :: t, ∃ u : Nat, x.f1 = (u : Int) ∧ u ≤ 1000000 := fun x hx => ⟨x.f1.toNat, by have := hia x hx; omega, by have := hia x hx; omega⟩
    have e1 : (s :: t).map (fun s => dig s.f1) = (s.f1.toNat :: t.map (fun x => x.f1.toNat)).map (fun u : Nat => dig (u : Int)) := by
      rw [List.map_cons, List.map_cons, List.map_map]
      have := hia s List.mem_cons_self
      rw [Int.toNat_of_nonneg this.1]
      congr 1
      apply List.map_congr_left
      intro x hx
      have := hia x (List.mem_cons_of_mem _ hx)
      show dig x.f1 = dig ((x.f1.toNat : Nat) : Int)
      rw [Int.toNat_of_nonneg this.1]
    have e2 : (s.f1.toNat :: t.map (fun x => x.f1.toNat)).map pr = (s :: t).map (fun s => (⟨s.f1, false, false⟩ : S36)) := by
      rw [List.map_cons, List.map_cons, List.map_map]
      have := hia s List.mem_cons_self
      congr 1
      · unfold pr
        rw [Int.toNat_of_nonneg this.1]
      · apply List.map_congr_left
        intro x hx
        have := hia x (List.mem_cons_of_mem _ hx)
        show pr x.f1.toNat = _
        unfold pr
        rw [Int.toNat_of_nonneg this.1]
    rw [e1] at hT
    have hu : s.f1.toNat ≤ 1000000 := by have := hia s List.mem_cons_self; omega
    have ht : ∀ x ∈ t.map (fun x => x.f1.toNat), x ≤ 1000000 := fun x hx => by
      obtain ⟨y, hy, rfl⟩ := List.mem_map.1 hx
      have := hia y (List.mem_cons_of_mem _ hy)
      omega
    rw [← e2]
    cases r with
    | true => exact read_list b 108 (by decide) (by decide) _ _ hu ht _ hT (by omega)
    | false => exact read_list b 104 (by decide) (by decide) _ _ hu ht _ hT (by omega)

end Go.Proofs.YtakjcihjkagnfaaDoor.Mo
