/- The walk of ReadSequence over a control sequence; its contract in the print's form. -/
import Derived.Test.YtakjcihjkagnfaaDoorReadW2
namespace Go.Proofs.YtakjcihjkagnfaaDoor.Or
set_option linter.unusedVariables false
set_option linter.unusedSimpArgs false
open Go Go.RowKit Go.Proofs.YtakjcihjkagnfaaDoorW.PrintWords Go.Proofs.YtakjcihjkagnfaaDoorW.PrintLast

theorem R_under {α : Type} {d : Kd α} {e : Nat} {w : World} {base C : Nat} {ok : Nat → Prop} {v : Value} {xs : List α} (h : Kd.R d e w base ok v xs) (hC : C < base) (j : Nat) (u : Value) : Kd.R d e (w.setCell ⟨C, j, none⟩ u) base ok v xs :=
  Kd.R_mono (Kd.R_far (p := ⟨C, j, none⟩) (Kd.R_bound h) (fun k hk => by have := hk.2.1; show k ≠ C; omega) u) (fun k hk => hk.1)

set_option maxHeartbeats 8000000 in
set_option maxRecDepth 100000 in
theorem rs_walk (w : World) (ad : Addr) (cap : Nat) (r : List Int) (hc : ∀ k, k < (27 :: 91 :: r).length → w.cell? (ad.add k) = some (.int .u8 ((27 :: 91 :: r).getD k 0))) (hl : r.length ≤ 1000000) (hcap : r.length + 2 ≤ cap) (h0 : 0 < r.length)
    (k0 : Nat) (p : Int) (hk0 : (k0 = 0 ∧ p = 0 ∧ ¬ (60 ≤ r.getD 0 0 ∧ r.getD 0 0 ≤ 63)) ∨ (k0 = 1 ∧ p = r.getD 0 0 ∧ 60 ≤ p ∧ p ≤ 63))
    (acc : List S36) (v : Int) (m : Bool) (t2 : List Int) (hscan : scanP (r.drop k0) [] 0 true = some (acc, v, m, t2)) (is : List Int) (f : Int) (hint : scanI t2 [] = (is, [f])) (hf0 : 64 ≤ f) (hf1 : f ≤ 126) (ps : List S36) (hps : ps = if t2.length < r.length - k0 then acc ++ [⟨v, m, false⟩] else acc) :
    Calls Tryd.prog 9 #[.slice (some ad) (r.length + 2) cap] w fun e w' => ∃ vP vI, e = .returned (.tuple #[.agg #[.int .i64 1, .int .u8 p, vP, vI, .int .u8 f, .slice none 0 0, .bool false], .bool true]) ∧
      Kd.R k36 39 w' w.heap.size (fun _ => True) vP ps ∧ Kd.R (Kd.int .u8) 5 w' w.heap.size (fun _ => True) vI is ∧ Below w.heap.size w w' := by
  have hc0 : w.cell? ad = some (.int .u8 27) := by have := hc 0 (by simp); simpa [Addr.add] using this
  have hc1 : w.cell? ⟨ad.block, ad.off + 1, none⟩ = some (.int .u8 91) := by have := hc 1 (by simp); simpa [Addr.add] using this
  have HRC := Lib.hid (fun k (hk : k < r.length) => show w.cell? ((⟨ad.block, ad.off + 2, none⟩ : Addr).add k) = some (.int .u8 (r.getD k 0)) by
    have h := hc (k + 2) (by simp; omega)
    have e2 : (⟨ad.block, ad.off + 2, none⟩ : Addr) = ad.add 2 := by simp [Addr.add]
    have e : (ad.add 2).add k = ad.add (k + 2) := by unfold Addr.add; split <;> simp <;> omega
    rw [e2, e, h]
    simp)
  have t0 : decide ((r.length : Int) + 2 < 2) = false := decide_eq_false (by omega)
  have t1 : decide (r.length + 2 < 2) = false := decide_eq_false (by omega)
  have tc : ¬ cap = 2 := by omega
  clear hc
  go_enter Tryd.func9, Tryd.ntmps9
  go_upto_region 2 with (fail)
  obtain ⟨W0, hW0⟩ : ∃ W0, W0 = w.alloc (.cells #[.int .i64 0, .int .u8 0, .slice none 0 0, .slice none 0 0, .int .u8 0, .slice none 0 0, .bool false] 35) := ⟨_, rfl⟩
  have hW0s : W0.heap.size = w.heap.size + 1 := by rw [hW0]; simp
  have hC0 : W0.heap[w.heap.size]? = some (.cells #[.int .i64 0, .int .u8 0, .slice none 0 0, .slice none 0 0, .int .u8 0, .slice none 0 0, .bool false] 35 (0, 0)) := by rw [hW0]; exact heap_alloc_new w _
  have hB0 : Below w.heap.size w W0 := by rw [hW0]; exact (Below.refl _ w).alloc (Nat.le_refl _) _
  rw [← hW0]
  rw [← hW0s]
  obtain ⟨W1, hW1⟩ : ∃ W1, W1 = W0.alloc (.cells #[.int .i64 0, .int .u8 0, .slice none 0 0, .slice none 0 0, .int .u8 0, .slice none 0 0, .bool false] 35) := ⟨_, rfl⟩
  have hS1 : W1.heap[W0.heap.size]? = some (.cells #[.int .i64 0, .int .u8 0, .slice none 0 0, .slice none 0 0, .int .u8 0, .slice none 0 0, .bool false] 35 (0, 0)) := by rw [hW1]; exact heap_alloc_new W0 _
  have hB1 : Below W0.heap.size W0 W1 := by rw [hW1]; exact (Below.refl _ W0).alloc (Nat.le_refl _) _
  rw [← hW1]
  have hb01 : Below w.heap.size w W1 := hB0.trans (hB1.mono (by omega))
  have g0 := (hb01.cell (World.block_lt_of_cell? w _ hc0)).trans hc0
  have g1 := (hb01.cell (World.block_lt_of_cell? w _ hc1)).trans hc1
  have s0 := cell_of hS1 0 (.int .i64 0) rfl
  have z0 := froz_of hS1 0
  have HSB : Hid (SB (W1.setCell ⟨W0.heap.size, 0, none⟩ (.int .i64 1)) W0.heap.size 0 (.slice none 0 0) (.slice none 0 0) 0) := Lib.hid (cell_set hS1 _)
  have HBL : Hid (Below W0.heap.size W0 (W1.setCell ⟨W0.heap.size, 0, none⟩ (.int .i64 1))) := Lib.hid (hB1.setCell (Nat.le_refl _) _)
  have HC0 := Lib.hid hC0
  have HB0 := Lib.hid hB0
  have HWS := Lib.hid hW0s
  have HRC0 : Hid (∀ k, k < r.length → W0.cell? ((⟨ad.block, ad.off + 2, none⟩ : Addr).add k) = some (.int .u8 (r.getD k 0))) := Lib.hid (fun k hk => (hB0.cell (World.block_lt_of_cell? w _ (HRC.out k hk))).trans (HRC.out k hk))
  have HSC := Lib.hid hscan
  have HIN := Lib.hid hint
  have HPS := Lib.hid hps
  have HK := Lib.hid hk0
  obtain ⟨C, hC⟩ : ∃ C, C = w.heap.size := ⟨_, rfl⟩
  rw [← hC] at HC0 HB0 HWS ⊢
  have HCE := Lib.hid hC
  obtain ⟨B, hBv⟩ : ∃ B, B = W0.heap.size := ⟨_, rfl⟩
  have HBV := Lib.hid hBv
  rw [← hBv] at s0 z0 ⊢
  have hCB : C ≠ B := by have := HWS.out; omega
  have hBC : B ≠ C := fun e => hCB e.symm
  clear hBv
  clear hC hS1 hb01 hW1 hW0 hC0 hB0 hB1 hW0s hc0 hc1 hscan hint hps hk0
  go_wp2_with fail
  have hBv := HBV.out
  subst hBv
  refine (rp_walk W0 _ W0.heap.size ⟨ad.block, ad.off + 2, none⟩ (cap - 2) r HRC0.out hl h0 HSB.out HBL.out (Nat.le_refl _) k0 p HK.out acc v m t2 HSC.out is f HIN.out hf0 hf1 ps HPS.out).mono ?_
  rintro e w2 ⟨rfl, vP, vI, hs2, hp2, hi2, hb2⟩
  have e0 := cell_of hs2 0 (.int .i64 1) rfl
  have e1 := cell_of hs2 1 (.int .u8 p) rfl
  have e2 := cell_of hs2 2 vP rfl
  have e3 := cell_of hs2 3 vI rfl
  have e4 := cell_of hs2 4 (.int .u8 f) rfl
  have e5 := cell_of hs2 5 (.slice none 0 0) rfl
  have e6 := cell_of hs2 6 (.bool false) rfl
  have hC2 := (hb2.block C (by have := HWS.out; omega)).trans HC0.out
  have c0 := cell_of hC2 0 (.int .i64 0) rfl
  have c1 := cell_of hC2 1 (.int .u8 0) rfl
  have c2 := cell_of hC2 2 (.slice none 0 0) rfl
  have c3 := cell_of hC2 3 (.slice none 0 0) rfl
  have c4 := cell_of hC2 4 (.int .u8 0) rfl
  have c5 := cell_of hC2 5 (.slice none 0 0) rfl
  have c6 := cell_of hC2 6 (.bool false) rfl
  have f0 := froz_of hC2 0
  have f1 := froz_of hC2 1
  have f2 := froz_of hC2 2
  have f3 := froz_of hC2 3
  have f4 := froz_of hC2 4
  have f5 := froz_of hC2 5
  have f6 := froz_of hC2 6
  obtain ⟨A2, q2, rfl⟩ := Kd.R_slice hp2
  obtain ⟨A3, q3, rfl⟩ := Kd.R_slice hi2
  have HS2 := Lib.hid hs2
  have HP2 := Lib.hid hp2
  have HI2 := Lib.hid hi2
  have HB2 := Lib.hid hb2
  have tr : decide (0 < r.length) = true := decide_eq_true h0
  clear hs2 hp2 hi2 hb2 hC2
  go_wp2
  have hCW : C < W0.heap.size := by have := HWS.out; omega
  have hCw : w.heap.size ≤ C := by have := HCE.out; omega
  refine bodyPost_ret (v := .tuple #[.agg #[.int .i64 1, .int .u8 p, .slice A2 ps.length q2, .slice A3 is.length q3, .int .u8 f, .slice none 0 0, .bool false], .bool true]) (by simp [results, Tryd.results9, go_sem, c0, c1, c2, c3, c4, c5, c6]) rfl ⟨_, _, rfl, ?_, ?_, ?_⟩
  · exact Kd.R_mono (Kd.R_lower (R_under (R_under (R_under (R_under (R_under (R_under (R_under HP2.out hCW _ _) hCW _ _) hCW _ _) hCW _ _) hCW _ _) hCW _ _) hCW _ _) (by omega)) (fun _ _ => trivial)
  · exact Kd.R_mono (Kd.R_lower (R_under (R_under (R_under (R_under (R_under (R_under (R_under HI2.out hCW _ _) hCW _ _) hCW _ _) hCW _ _) hCW _ _) hCW _ _) hCW _ _) (by omega)) (fun _ _ => trivial)
  · have hb : Below w.heap.size w w2 := by
      have h := HB0.out
      rw [HCE.out] at h
      exact h.trans (HB2.out.mono (by omega))
    exact ((((((hb.setCell hCw _).setCell hCw _).setCell hCw _).setCell hCw _).setCell hCw _).setCell hCw _).setCell hCw _

def spec_ReadSequence.f (l0 : List Int) : Option (Int × Int × List S36 × List Int × Int × List Int × Bool × Bool) :=
  if l0.length ≤ 1000000 then (readT l0).bind fun x => some (1, x.1, x.2.1, x.2.2.1, x.2.2.2, [], false, true) else none
theorem readT_some {l0 : List Int} {x : Int × List S36 × List Int × Int} (h : readT l0 = some x) : ∃ r, l0 = 27 :: 91 :: r ∧ body r = some x := by
  unfold readT at h
  split at h
  · exact ⟨_, rfl, h⟩
  · cases h
theorem pre_cases (r : List Int) (h0 : 0 < r.length) : ∃ k0, (pre r).2 = r.drop k0 ∧ ((k0 = 0 ∧ (pre r).1 = 0 ∧ ¬ (60 ≤ r.getD 0 0 ∧ r.getD 0 0 ≤ 63)) ∨ (k0 = 1 ∧ (pre r).1 = r.getD 0 0 ∧ 60 ≤ (pre r).1 ∧ (pre r).1 ≤ 63)) := by
  cases r with
  | nil => simp at h0
  | cons c t =>
    have e : pre (c :: t) = if 60 ≤ c ∧ c ≤ 63 then (c, t) else (0, c :: t) := rfl
    rw [e]
    by_cases h : 60 ≤ c ∧ c ≤ 63
    · rw [if_pos h]
      exact ⟨1, rfl, Or.inr ⟨rfl, rfl, h.1, h.2⟩⟩
    · rw [if_neg h]
      exact ⟨0, rfl, Or.inl ⟨rfl, rfl, h⟩⟩
theorem spec_ReadSequence.calls (A0 : Option Addr) (c0 : Nat) (l0 : List Int) (r1 r2 : Int) (r3 : List S36) (r4 : List Int) (r5 : Int) (r6 : List Int) (r7 r8 : Bool) (w : World) (hr0 : Kd.C (Kd.int .u8) w A0 l0.length l0) (hc0 : l0.length ≤ c0) (h : spec_ReadSequence.f l0 = some (r1, r2, r3, r4, r5, r6, r7, r8)) :
    Calls Tryd.prog 9 #[.slice A0 l0.length c0] w fun e w' => ∃ v1 v2 v3, e = .returned (.tuple #[.agg #[.int .i64 r1, .int .u8 r2, v1, v2, .int .u8 r5, v3, .bool r7], .bool r8]) ∧
      Kd.R k36 39 w' w.heap.size (fun _ => True) v1 r3 ∧ Kd.R (Kd.int .u8) 5 w' w.heap.size (fun k => some k ≠ v3.ownBlock) v2 r4 ∧ Kd.R (Kd.int .u8) 5 w' w.heap.size (fun k => some k ≠ v2.ownBlock) v3 r6 ∧ Below w.heap.size w w' := by
  unfold spec_ReadSequence.f at h
  split at h
  · rename_i hl
    obtain ⟨x, hx, h⟩ := Option.bind_eq_some_iff.1 h
    simp only [Option.some.injEq, Prod.mk.injEq] at h
    obtain ⟨rfl, rfl, rfl, rfl, rfl, rfl, rfl, rfl⟩ := h
    obtain ⟨r, rfl, hb⟩ := readT_some hx
    obtain ⟨ad, rfl, hcell⟩ := (Kd.reads_of_C (enc := Value.int .u8) (d := (0 : Int)) (h1 := fun _ => rfl) hr0).2.2 (by simp)
    have h0 : 0 < r.length := by
      cases r with
      | nil => simp [body, pre, scanP, scanI] at hb
      | cons c t => simp
    obtain ⟨k0, hk, hk0⟩ := pre_cases r h0
    unfold body at hb
    rw [hk] at hb
    cases hs : scanP (r.drop k0) [] 0 true with
    | none => rw [hs] at hb; cases hb
    | some q =>
      obtain ⟨acc, v, m, t2⟩ := q
      rw [hs] at hb
      simp only at hb
      split at hb
      · rename_i is f hi
        split at hb
        · rename_i hf
          obtain rfl := Option.some.inj hb
          have hlen : (r.drop k0).length = r.length - k0 := List.length_drop
          refine (rs_walk w ad c0 r hcell (by simp at hl; omega) (by simpa using hc0) h0 k0 (pre r).1 hk0 acc v m t2 hs is f hi hf.1 hf.2 (if t2.length < (r.drop k0).length then acc ++ [⟨v, m, false⟩] else acc) (by rw [hlen])).mono ?_
          rintro e w' ⟨vP, vI, rfl, h1, h2, h3⟩
          exact ⟨vP, vI, _, rfl, h1, Kd.R_mono h2 (fun k _ => by simp [Value.ownBlock]), Kd.R_nil _ _ _ _ _, h3⟩
        · cases hb
      · cases hb
  · cases h
end Go.Proofs.YtakjcihjkagnfaaDoor.Or
