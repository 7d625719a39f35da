/- GenerateTransitionTable, walked call by call: printed by wip/gen_gen.py. -/
import Derived.Test.YtmpmfdghdaofhaaDoorGenL
namespace Go.Proofs.YtmpmfdghdaofhaaDoor.Gen
set_option linter.unusedVariables false
set_option linter.unusedSimpArgs false
open Go Go.RowKit Go.Proofs.YtmpmfdghdaofhaaDoor.PG Go.Proofs.YtmpmfdghdaofhaaDoorW.PrintWords Go.Proofs.YtmpmfdghdaofhaaDoorW.PrintLast Go.Proofs.YtmpmfdghdaofhaaDoorW.PrintMore

abbrev Own (v : Value) : Nat → Prop := fun k => some k = v.ownBlock
/-- The table at v is what the updates make. -/
structure St (w0 w : World) (v : Value) (U : List Up) : Prop where
  b : Below w0.heap.size w0 w
  r : Kd.R (Kd.int .u8) 5 w w0.heap.size (fun _ => True) v (tab U)
theorem St.grow {w0 w w1 : World} {v : Value} {U : List Up} (h : St w0 w v U) (hb : Below w.heap.size w w1) : St w0 w1 v U := ⟨below_step h.b hb, Kd.R_below h.r hb⟩

theorem c_one (w0 w : World) (v : Value) (U : List Up) (h : St w0 w v U) (c s a n : Int) (h0 : 0 ≤ s) (h1 : s ≤ 15) (h2 : 0 ≤ c) (h3 : c < 256) :
    Calls Tryd.prog 47 #[v, .int .u8 c, .int .u8 s, .int .u8 a, .int .u8 n] w fun e w' => e = .returned (.tuple #[]) ∧ St w0 w' v ((s, c, c, val a n) :: U) ∧ Kept w w' (Own v) := by
  refine (parser_TransitionTable_AddOne.calls (Own v) v (tab U) c s a n _ w0 w h.b (Kd.R_tight rfl h.r) (f_one U h0 h1 h2 h3)).mono ?_
  rintro e w' ⟨rfl, hr, hb, hk⟩
  exact ⟨rfl, ⟨hb, Kd.R_reok rfl hr (fun _ _ => trivial)⟩, hk⟩

theorem c_rng (w0 w : World) (v : Value) (U : List Up) (h : St w0 w v U) (lo hi s a n : Int) (h0 : 0 ≤ s) (h1 : s ≤ 15) (h2 : 0 ≤ lo) (h3 : 0 ≤ hi) (h4 : hi < 256) (h5 : lo < 256) :
    Calls Tryd.prog 46 #[v, .int .u8 lo, .int .u8 hi, .int .u8 s, .int .u8 a, .int .u8 n] w fun e w' => e = .returned (.tuple #[]) ∧ St w0 w' v ((s, lo, hi, val a n) :: U) ∧ Kept w w' (Own v) := by
  obtain ⟨K, hf⟩ := f_rng U (a := a) (n := n) h0 h1 h2 h3 h4 h5
  refine (parser_TransitionTable_AddRange.calls K (Own v) v (tab U) lo hi s a n _ w0 w h.b (Kd.R_tight rfl h.r) hf).mono ?_
  rintro e w' ⟨rfl, hr, hb, hk⟩
  exact ⟨rfl, ⟨hb, Kd.R_reok rfl hr (fun _ _ => trivial)⟩, hk⟩

theorem c_mny (w0 w : World) (v : Value) (U : List Up) (h : St w0 w v U) (s a n : Int) (cs : List Int) (hc : ∀ x ∈ cs, 0 ≤ x ∧ x < 256) (hl : cs.length ≤ 100000) (h0 : 0 ≤ s) (h1 : s ≤ 15) {A : Option Addr} {cp B : Nat} (ok : Nat → Prop) (hR : Kd.R (Kd.int .u8) 5 w B ok (.slice A cs.length cp) cs) (hok : ∀ k, ok k → ¬ Own v k) :
    Calls Tryd.prog 45 #[v, .slice A cs.length cp, .int .u8 s, .int .u8 a, .int .u8 n] w fun e w' => e = .returned (.tuple #[]) ∧ St w0 w' v (mny s (val a n) cs U) ∧ Kept w w' (Own v) := by
  obtain ⟨K, hf⟩ := f_mny U (s := s) (a := a) (n := n) cs hc h0 h1 hl
  refine (parser_TransitionTable_AddMany.calls K (Own v) v (tab U) A cp cs s a n _ w0 w h.b (Kd.R_tight rfl h.r) (Kd.C_kept_own hR hok) (Kd.R_reads' hR).2.1 hf).mono ?_
  rintro e w' ⟨rfl, hr, hb, hk⟩
  exact ⟨rfl, ⟨hb, Kd.R_reok rfl hr (fun _ _ => trivial)⟩, hk⟩

def rows1 : List Int := [0, 1, 2, 3, 4, 5, 6, 7, 8, 9, 10, 11, 12, 13, 14]
def rows2 : List Int := [11, 12, 13]
theorem rows1_is : parser_r.f 40 0 14 = some rows1 := by decide +kernel
theorem rows2_is : parser_r.f 40 11 13 = some rows2 := by decide +kernel
theorem rows1_at (k : Nat) (h : k < 15) : rd rows1 (k : Int) = (k : Int) := by
  have key : ∀ j : Fin 15, rd rows1 ((j.val : Nat) : Int) = ((j.val : Nat) : Int) := by decide +kernel
  exact key ⟨k, h⟩
theorem rows2_at (k : Nat) (h : k < 3) : rd rows2 (k : Int) = (k : Int) + 11 := by
  have key : ∀ j : Fin 3, rd rows2 ((j.val : Nat) : Int) = ((j.val : Nat) : Int) + 11 := by decide +kernel
  exact key ⟨k, h⟩

/-- One round of the first loop. -/
def upd1 (s : Int) (U : List Up) : List Up := ((s, 240, 244, val 2 14) :: ((s, 224, 239, val 2 14) :: ((s, 194, 223, val 2 14) :: ((s, 157, 157, val 6 10) :: ((s, 144, 144, val 1 4) :: ((s, 155, 155, val 1 1) :: ((s, 159, 159, val 6 13) :: ((s, 158, 158, val 6 12) :: ((s, 152, 152, val 6 11) :: ((s, 27, 27, val 1 8) :: ((s, 156, 156, val 5 0) :: ((s, 144, 151, val 5 0) :: ((s, 128, 143, val 5 0) :: (mny s (val 5 0) [24, 26, 153, 154] U))))))))))))))
def L1 : Nat → List Up
  | 0 => []
  | k + 1 => upd1 (k : Int) (L1 k)
def mid : List Up := ((8, 93, 93, val 6 10) :: ((8, 91, 91, val 1 1) :: ((8, 80, 80, val 1 4) :: ((8, 95, 95, val 6 13) :: ((8, 94, 94, val 6 12) :: ((8, 88, 88, val 6 11) :: ((8, 32, 47, val 2 9) :: ((8, 96, 126, val 4 0) :: ((8, 92, 92, val 4 0) :: ((8, 90, 90, val 4 0) :: ((8, 89, 89, val 4 0) :: ((8, 81, 87, val 4 0) :: ((8, 48, 79, val 4 0) :: ((8, 127, 127, val 0 8) :: ((8, 28, 31, val 5 8) :: ((8, 25, 25, val 5 8) :: ((8, 0, 23, val 5 8) :: ((9, 48, 126, val 4 0) :: ((9, 127, 127, val 0 9) :: ((9, 32, 47, val 2 9) :: ((9, 28, 31, val 5 9) :: ((9, 25, 25, val 5 9) :: ((9, 0, 23, val 5 9) :: ((0, 127, 127, val 5 0) :: ((0, 32, 126, val 9 0) :: ((0, 28, 31, val 5 0) :: ((0, 25, 25, val 5 0) :: ((0, 0, 23, val 5 0) :: (L1 15)))))))))))))))))))))))))))))
def upd2 (s : Int) (U : List Up) : List Up := (mny s (val 0 0) [24, 26] ((s, 156, 156, val 4 0) :: ((s, 27, 27, val 4 8) :: ((s, 32, 127, val 7 s) :: ((s, 28, 31, val 7 s) :: ((s, 25, 25, val 7 s) :: ((s, 0, 23, val 7 s) :: U)))))))
def L2 : Nat → List Up
  | 0 => mid
  | k + 1 => upd2 ((k : Int) + 11) (L2 k)
/-- All updates. -/
def gen : List Up := (mny 10 (val 0 0) [24, 26] ((10, 156, 156, val 4 0) :: ((10, 7, 7, val 4 0) :: ((10, 27, 27, val 4 8) :: ((10, 32, 255, val 7 10) :: ((10, 28, 31, val 0 10) :: ((10, 25, 25, val 0 10) :: ((10, 8, 23, val 0 10) :: ((10, 0, 6, val 0 10) :: ((1, 60, 63, val 3 3) :: ((1, 48, 59, val 8 3) :: ((1, 32, 47, val 2 2) :: ((1, 64, 126, val 4 0) :: ((1, 127, 127, val 0 1) :: ((1, 28, 31, val 5 1) :: ((1, 25, 25, val 5 1) :: ((1, 0, 23, val 5 1) :: ((2, 48, 63, val 0 0) :: ((2, 64, 126, val 4 0) :: ((2, 127, 127, val 0 2) :: ((2, 32, 47, val 2 2) :: ((2, 28, 31, val 5 2) :: ((2, 25, 25, val 5 2) :: ((2, 0, 23, val 5 2) :: ((3, 32, 47, val 2 2) :: ((3, 64, 126, val 4 0) :: ((3, 60, 63, val 0 3) :: ((3, 127, 127, val 0 3) :: ((3, 48, 59, val 8 3) :: ((3, 28, 31, val 5 3) :: ((3, 25, 25, val 5 3) :: ((3, 0, 23, val 5 3) :: (mny 7 (val 0 0) [24, 26] ((7, 156, 156, val 4 0) :: ((7, 27, 27, val 4 8) :: ((7, 128, 255, val 7 7) :: ((7, 127, 127, val 7 7) :: ((7, 32, 126, val 7 7) :: ((7, 28, 31, val 7 7) :: ((7, 25, 25, val 7 7) :: ((7, 0, 23, val 7 7) :: ((6, 64, 126, val 6 7) :: ((6, 32, 47, val 2 5) :: ((6, 60, 63, val 0 6) :: ((6, 127, 127, val 0 6) :: ((6, 48, 59, val 8 6) :: ((6, 28, 31, val 0 6) :: ((6, 25, 25, val 0 6) :: ((6, 0, 23, val 0 6) :: ((5, 64, 126, val 6 7) :: ((5, 48, 63, val 6 7) :: ((5, 127, 127, val 0 5) :: ((5, 32, 47, val 2 5) :: ((5, 28, 31, val 0 5) :: ((5, 25, 25, val 0 5) :: ((5, 0, 23, val 0 5) :: ((4, 64, 126, val 6 7) :: ((4, 27, 27, val 7 7) :: ((4, 8, 13, val 7 7) :: ((4, 60, 63, val 3 6) :: ((4, 48, 59, val 8 6) :: ((4, 32, 47, val 2 5) :: ((4, 127, 127, val 0 4) :: ((4, 28, 31, val 0 4) :: ((4, 25, 25, val 0 4) :: ((4, 14, 23, val 0 4) :: ((4, 0, 7, val 0 4) :: (L2 3))))))))))))))))))))))))))))))))))))))))))))))))))))))))))))))))))))

set_option maxHeartbeats 40000000 in
set_option maxRecDepth 100000 in
theorem generate (w : World) : Calls Tryd.prog 24 #[] w fun e w' => ∃ v, e = .returned v ∧ St w w' v gen := by
  go_enter Tryd.func24, Tryd.ntmps24
  go_wp2_with fail
  refine (parser_NewTransitionTable.calls 4096 _ w f_new).mono ?_
  rintro e wn ⟨v, rfl, hr, hb⟩
  have HS := Aside0.mk (show St w wn v [] from ⟨hb, hr⟩)
  clear hr hb
  go_wp2_with fail
  obtain ⟨K, hK⟩ := f_def
  refine (parser_TransitionTable_SetDefault.calls K (Own v) v (tab []) 0 0 _ w wn HS.out.b (Kd.R_tight rfl HS.out.r) hK).mono ?_
  rintro e wd ⟨rfl, hr, hb, hk⟩
  clear HS
  have HS := Aside0.mk (show St w wd v [] from ⟨hb, Kd.R_reok rfl hr (fun _ _ => trivial)⟩)
  clear hr hb hk hK
  go_wp2_with fail
  refine (parser_r.calls 40 0 14 rows1 _ rows1_is).mono ?_
  rintro e wr1 ⟨vr, rfl, hr, hb⟩
  have hs_ := Aside0.mk (HS.out.grow hb)
  have HR := Aside0.mk (Kd.R_new' hr (Kd.R_lt HS.out.r))
  clear HS
  have HS := hs_
  clear hs_ hr hb
  obtain ⟨Ar1, cr1, er⟩ : ∃ A c, vr = .slice A 15 c := Kd.R_slice HR.out
  subst er
  have hr_ := Aside0.mk (show ∃ B, Kd.R (Kd.int .u8) 5 wr1 B (fun k_ => True ∧ some k_ ≠ v.ownBlock) (.slice Ar1 15 cr1) rows1 from ⟨_, HR.out⟩)
  clear HR
  have HR := hr_
  clear hr_
  go_wp2_with fail
  go_loopw [11] (fun u wr => ∃ (J : Int) (k : Nat), u = .int .i64 J ∧ Aside0 (J = (k : Int)) ∧ Aside0 (k ≤ 15) ∧ Aside0 (St w wr v (L1 k)) ∧ Aside0 (∃ B, Kd.R (Kd.int .u8) 5 wr B (fun k_ => True ∧ some k_ ≠ v.ownBlock) (.slice Ar1 15 cr1) rows1)) (fun u _ => 15 - (intOf u).toNat)
  case atStart => exact ⟨0, 0, rfl, ⟨rfl⟩, ⟨Nat.zero_le _⟩, HS, HR⟩
  case round =>
    clear HS HR
    obtain ⟨J, k, rfl, HJ, HK, HS, HR⟩ := hrel
    by_cases hlt : k < 15
    · have hj := HJ.out
      have tlt : decide (J < 15) = true := decide_eq_true (by omega)
      have p0 : 0 ≤ J := by omega
      have q0 : J < 15 := by omega
      have q1 : J < ((15 : Nat) : Int) := by omega
      have hwr : wrap64 (J + 1) = J + 1 := by unfold wrap64; omega
      obtain ⟨B, hR⟩ := HR.out
      obtain ⟨ad, e0, hx⟩ := Kd.at_int (Kd.R_reads' hR).2.2 J p0 (show J < ((rows1).length : Int) from q1)
      cases e0
      clear HR
      have HR := Aside0.mk hR
      clear hR q1
      have hsv : rd rows1 J = (k : Int) := by rw [hj]; exact rows1_at k hlt
      rw [hsv] at hx
      obtain ⟨s, hs0⟩ : ∃ s : Int, s = (k : Int) := ⟨_, rfl⟩
      rw [← hs0] at hx
      have HSV := Aside0.mk hs0
      have sb0 : 0 ≤ s := by omega
      have sb1 : s ≤ 15 := by omega
      clear hs0 hsv hj
      replace p0 := eq_true p0
      replace q0 := eq_true q0
      go_wp2_with (first | ((with_reducible refine gate_dst (N := 16) rfl ?_); refine Kd.R_lit (Kd.int .u8) _ 5 ?hg (N := 16) ?hd (xs := ([24, 26, 153, 154] : List Int)) (inner := [.int .u8 24, .int .u8 26, .int .u8 153, .int .u8 154]) (ok := fun _ => True) (okp := fun _ => True) ?hr ?hp (fun _ hk => hk) trivial (Below.refl _ _) (Nat.le_refl _) (by simp) ?_; (case hd => rfl); (case hg => rfl); (case hr => first | (go_simp; done) | (go_simp; rfl)); (case hp => exact (Reps.one (show Kd.M (Kd.int .u8) _ _ _ 24 [.int .u8 24] from rfl) (Reps.one (show Kd.M (Kd.int .u8) _ _ _ 26 [.int .u8 26] from rfl) (Reps.one (show Kd.M (Kd.int .u8) _ _ _ 153 [.int .u8 153] from rfl) (Reps.one (show Kd.M (Kd.int .u8) _ _ _ 154 [.int .u8 154] from rfl) (Reps.none _ _)))))); intro vl1 wl1 ho hb hg_ hnew_; clear hg_ hnew_; have HL1 := Aside0.mk (Kd.R_new' ho (Kd.R_lt HS.out.r)); have hs_ := Aside0.mk (HS.out.grow hb); clear HS; have HS := hs_; clear hs_; have hr_ := Aside0.mk (Kd.R_below HR.out hb); clear HR; have HR := hr_; clear hr_; clear hb ho; obtain ⟨Al1, cl1, el1⟩ := Kd.R_slice HL1.out; subst el1) | fail)
      refine (c_mny w _ v _ HS.out s 5 0 [24, 26, 153, 154] (by decide) (by decide) (by omega) (by omega) _ HL1.out (fun k h1 h2 => h1.2 h2)).mono ?_
      rintro e w1 ⟨rfl, hs, hk⟩
      have hs_ := Aside0.mk hs
      clear HS
      have HS := hs_
      clear hs_
      have hr_ := Aside0.mk (Kd.R_kept HR.out hk (fun k h1 h2 => h1.2 h2))
      clear HR
      have HR := hr_
      clear hr_
      clear HL1
      clear hs hk
      go_wp2_with fail
      refine (c_rng w _ v _ HS.out 128 143 s 5 0 (by omega) (by omega) (by decide) (by decide) (by decide) (by decide)).mono ?_
      rintro e w2 ⟨rfl, hs, hk⟩
      have hs_ := Aside0.mk hs
      clear HS
      have HS := hs_
      clear hs_
      have hr_ := Aside0.mk (Kd.R_kept HR.out hk (fun k h1 h2 => h1.2 h2))
      clear HR
      have HR := hr_
      clear hr_
      clear hs hk
      go_wp2_with fail
      refine (c_rng w _ v _ HS.out 144 151 s 5 0 (by omega) (by omega) (by decide) (by decide) (by decide) (by decide)).mono ?_
      rintro e w3 ⟨rfl, hs, hk⟩
      have hs_ := Aside0.mk hs
      clear HS
      have HS := hs_
      clear hs_
      have hr_ := Aside0.mk (Kd.R_kept HR.out hk (fun k h1 h2 => h1.2 h2))
      clear HR
      have HR := hr_
      clear hr_
      clear hs hk
      go_wp2_with fail
      refine (c_one w _ v _ HS.out 156 s 5 0 (by omega) (by omega) (by decide) (by decide)).mono ?_
      rintro e w4 ⟨rfl, hs, hk⟩
      have hs_ := Aside0.mk hs
      clear HS
      have HS := hs_
      clear hs_
      have hr_ := Aside0.mk (Kd.R_kept HR.out hk (fun k h1 h2 => h1.2 h2))
      clear HR
      have HR := hr_
      clear hr_
      clear hs hk
      go_wp2_with fail
      refine (c_one w _ v _ HS.out 27 s 1 8 (by omega) (by omega) (by decide) (by decide)).mono ?_
      rintro e w5 ⟨rfl, hs, hk⟩
      have hs_ := Aside0.mk hs
      clear HS
      have HS := hs_
      clear hs_
      have hr_ := Aside0.mk (Kd.R_kept HR.out hk (fun k h1 h2 => h1.2 h2))
      clear HR
      have HR := hr_
      clear hr_
      clear hs hk
      go_wp2_with fail
      refine (c_one w _ v _ HS.out 152 s 6 11 (by omega) (by omega) (by decide) (by decide)).mono ?_
      rintro e w6 ⟨rfl, hs, hk⟩
      have hs_ := Aside0.mk hs
      clear HS
      have HS := hs_
      clear hs_
      have hr_ := Aside0.mk (Kd.R_kept HR.out hk (fun k h1 h2 => h1.2 h2))
      clear HR
      have HR := hr_
      clear hr_
      clear hs hk
      go_wp2_with fail
      refine (c_one w _ v _ HS.out 158 s 6 12 (by omega) (by omega) (by decide) (by decide)).mono ?_
      rintro e w7 ⟨rfl, hs, hk⟩
      have hs_ := Aside0.mk hs
      clear HS
      have HS := hs_
      clear hs_
      have hr_ := Aside0.mk (Kd.R_kept HR.out hk (fun k h1 h2 => h1.2 h2))
      clear HR
      have HR := hr_
      clear hr_
      clear hs hk
      go_wp2_with fail
      refine (c_one w _ v _ HS.out 159 s 6 13 (by omega) (by omega) (by decide) (by decide)).mono ?_
      rintro e w8 ⟨rfl, hs, hk⟩
      have hs_ := Aside0.mk hs
      clear HS
      have HS := hs_
      clear hs_
      have hr_ := Aside0.mk (Kd.R_kept HR.out hk (fun k h1 h2 => h1.2 h2))
      clear HR
      have HR := hr_
      clear hr_
      clear hs hk
      go_wp2_with fail
      refine (c_one w _ v _ HS.out 155 s 1 1 (by omega) (by omega) (by decide) (by decide)).mono ?_
      rintro e w9 ⟨rfl, hs, hk⟩
      have hs_ := Aside0.mk hs
      clear HS
      have HS := hs_
      clear hs_
      have hr_ := Aside0.mk (Kd.R_kept HR.out hk (fun k h1 h2 => h1.2 h2))
      clear HR
      have HR := hr_
      clear hr_
      clear hs hk
      go_wp2_with fail
      refine (c_one w _ v _ HS.out 144 s 1 4 (by omega) (by omega) (by decide) (by decide)).mono ?_
      rintro e w10 ⟨rfl, hs, hk⟩
      have hs_ := Aside0.mk hs
      clear HS
      have HS := hs_
      clear hs_
      have hr_ := Aside0.mk (Kd.R_kept HR.out hk (fun k h1 h2 => h1.2 h2))
      clear HR
      have HR := hr_
      clear hr_
      clear hs hk
      go_wp2_with fail
      refine (c_one w _ v _ HS.out 157 s 6 10 (by omega) (by omega) (by decide) (by decide)).mono ?_
      rintro e w11 ⟨rfl, hs, hk⟩
      have hs_ := Aside0.mk hs
      clear HS
      have HS := hs_
      clear hs_
      have hr_ := Aside0.mk (Kd.R_kept HR.out hk (fun k h1 h2 => h1.2 h2))
      clear HR
      have HR := hr_
      clear hr_
      clear hs hk
      go_wp2_with fail
      refine (c_rng w _ v _ HS.out 194 223 s 2 14 (by omega) (by omega) (by decide) (by decide) (by decide) (by decide)).mono ?_
      rintro e w12 ⟨rfl, hs, hk⟩
      have hs_ := Aside0.mk hs
      clear HS
      have HS := hs_
      clear hs_
      have hr_ := Aside0.mk (Kd.R_kept HR.out hk (fun k h1 h2 => h1.2 h2))
      clear HR
      have HR := hr_
      clear hr_
      clear hs hk
      go_wp2_with fail
      refine (c_rng w _ v _ HS.out 224 239 s 2 14 (by omega) (by omega) (by decide) (by decide) (by decide) (by decide)).mono ?_
      rintro e w13 ⟨rfl, hs, hk⟩
      have hs_ := Aside0.mk hs
      clear HS
      have HS := hs_
      clear hs_
      have hr_ := Aside0.mk (Kd.R_kept HR.out hk (fun k h1 h2 => h1.2 h2))
      clear HR
      have HR := hr_
      clear hr_
      clear hs hk
      go_wp2_with fail
      refine (c_rng w _ v _ HS.out 240 244 s 2 14 (by omega) (by omega) (by decide) (by decide) (by decide) (by decide)).mono ?_
      rintro e w14 ⟨rfl, hs, hk⟩
      have hs_ := Aside0.mk hs
      clear HS
      have HS := hs_
      clear hs_
      have hr_ := Aside0.mk (Kd.R_kept HR.out hk (fun k h1 h2 => h1.2 h2))
      clear HR
      have HR := hr_
      clear hr_
      clear hs hk
      go_wp2_with fail
      go_roundw
      case rel =>
        refine ⟨wrap64 (J + 1), k + 1, rfl, ⟨by rw [hwr, HJ.out]; rfl⟩, ⟨hlt⟩, ?_, ⟨_, HR.out⟩⟩
        have h_ := HS.out
        rw [HSV.out] at h_
        exact ⟨h_⟩
      case measure =>
        have := HJ.out
        rw [hwr]
        simp [intOf]
        omega
    · have hj := HJ.out
      have tlt : decide (J < 15) = false := decide_eq_false (by omega)
      obtain rfl : k = 15 := by have := HK.out; omega
      clear hj HR HJ HK hlt
      go_wp2_with fail
      refine (c_rng w _ v _ HS.out 0 23 0 5 0 (by decide) (by decide) (by decide) (by decide) (by decide) (by decide)).mono ?_
      rintro e w15 ⟨rfl, hs, hk⟩
      have hs_ := Aside0.mk hs
      clear HS
      have HS := hs_
      clear hs_
      clear hs hk
      go_wp2_with fail
      refine (c_one w _ v _ HS.out 25 0 5 0 (by decide) (by decide) (by decide) (by decide)).mono ?_
      rintro e w16 ⟨rfl, hs, hk⟩
      have hs_ := Aside0.mk hs
      clear HS
      have HS := hs_
      clear hs_
      clear hs hk
      go_wp2_with fail
      refine (c_rng w _ v _ HS.out 28 31 0 5 0 (by decide) (by decide) (by decide) (by decide) (by decide) (by decide)).mono ?_
      rintro e w17 ⟨rfl, hs, hk⟩
      have hs_ := Aside0.mk hs
      clear HS
      have HS := hs_
      clear hs_
      clear hs hk
      go_wp2_with fail
      refine (c_rng w _ v _ HS.out 32 126 0 9 0 (by decide) (by decide) (by decide) (by decide) (by decide) (by decide)).mono ?_
      rintro e w18 ⟨rfl, hs, hk⟩
      have hs_ := Aside0.mk hs
      clear HS
      have HS := hs_
      clear hs_
      clear hs hk
      go_wp2_with fail
      refine (c_one w _ v _ HS.out 127 0 5 0 (by decide) (by decide) (by decide) (by decide)).mono ?_
      rintro e w19 ⟨rfl, hs, hk⟩
      have hs_ := Aside0.mk hs
      clear HS
      have HS := hs_
      clear hs_
      clear hs hk
      go_wp2_with fail
      refine (c_rng w _ v _ HS.out 0 23 9 5 9 (by decide) (by decide) (by decide) (by decide) (by decide) (by decide)).mono ?_
      rintro e w20 ⟨rfl, hs, hk⟩
      have hs_ := Aside0.mk hs
      clear HS
      have HS := hs_
      clear hs_
      clear hs hk
      go_wp2_with fail
      refine (c_one w _ v _ HS.out 25 9 5 9 (by decide) (by decide) (by decide) (by decide)).mono ?_
      rintro e w21 ⟨rfl, hs, hk⟩
      have hs_ := Aside0.mk hs
      clear HS
      have HS := hs_
      clear hs_
      clear hs hk
      go_wp2_with fail
      refine (c_rng w _ v _ HS.out 28 31 9 5 9 (by decide) (by decide) (by decide) (by decide) (by decide) (by decide)).mono ?_
      rintro e w22 ⟨rfl, hs, hk⟩
      have hs_ := Aside0.mk hs
      clear HS
      have HS := hs_
      clear hs_
      clear hs hk
      go_wp2_with fail
      refine (c_rng w _ v _ HS.out 32 47 9 2 9 (by decide) (by decide) (by decide) (by decide) (by decide) (by decide)).mono ?_
      rintro e w23 ⟨rfl, hs, hk⟩
      have hs_ := Aside0.mk hs
      clear HS
      have HS := hs_
      clear hs_
      clear hs hk
      go_wp2_with fail
      refine (c_one w _ v _ HS.out 127 9 0 9 (by decide) (by decide) (by decide) (by decide)).mono ?_
      rintro e w24 ⟨rfl, hs, hk⟩
      have hs_ := Aside0.mk hs
      clear HS
      have HS := hs_
      clear hs_
      clear hs hk
      go_wp2_with fail
      refine (c_rng w _ v _ HS.out 48 126 9 4 0 (by decide) (by decide) (by decide) (by decide) (by decide) (by decide)).mono ?_
      rintro e w25 ⟨rfl, hs, hk⟩
      have hs_ := Aside0.mk hs
      clear HS
      have HS := hs_
      clear hs_
      clear hs hk
      go_wp2_with fail
      refine (c_rng w _ v _ HS.out 0 23 8 5 8 (by decide) (by decide) (by decide) (by decide) (by decide) (by decide)).mono ?_
      rintro e w26 ⟨rfl, hs, hk⟩
      have hs_ := Aside0.mk hs
      clear HS
      have HS := hs_
      clear hs_
      clear hs hk
      go_wp2_with fail
      refine (c_one w _ v _ HS.out 25 8 5 8 (by decide) (by decide) (by decide) (by decide)).mono ?_
      rintro e w27 ⟨rfl, hs, hk⟩
      have hs_ := Aside0.mk hs
      clear HS
      have HS := hs_
      clear hs_
      clear hs hk
      go_wp2_with fail
      refine (c_rng w _ v _ HS.out 28 31 8 5 8 (by decide) (by decide) (by decide) (by decide) (by decide) (by decide)).mono ?_
      rintro e w28 ⟨rfl, hs, hk⟩
      have hs_ := Aside0.mk hs
      clear HS
      have HS := hs_
      clear hs_
      clear hs hk
      go_wp2_with fail
      refine (c_one w _ v _ HS.out 127 8 0 8 (by decide) (by decide) (by decide) (by decide)).mono ?_
      rintro e w29 ⟨rfl, hs, hk⟩
      have hs_ := Aside0.mk hs
      clear HS
      have HS := hs_
      clear hs_
      clear hs hk
      go_wp2_with fail
      refine (c_rng w _ v _ HS.out 48 79 8 4 0 (by decide) (by decide) (by decide) (by decide) (by decide) (by decide)).mono ?_
      rintro e w30 ⟨rfl, hs, hk⟩
      have hs_ := Aside0.mk hs
      clear HS
      have HS := hs_
      clear hs_
      clear hs hk
      go_wp2_with fail
      refine (c_rng w _ v _ HS.out 81 87 8 4 0 (by decide) (by decide) (by decide) (by decide) (by decide) (by decide)).mono ?_
      rintro e w31 ⟨rfl, hs, hk⟩
      have hs_ := Aside0.mk hs
      clear HS
      have HS := hs_
      clear hs_
      clear hs hk
      go_wp2_with fail
      refine (c_one w _ v _ HS.out 89 8 4 0 (by decide) (by decide) (by decide) (by decide)).mono ?_
      rintro e w32 ⟨rfl, hs, hk⟩
      have hs_ := Aside0.mk hs
      clear HS
      have HS := hs_
      clear hs_
      clear hs hk
      go_wp2_with fail
      refine (c_one w _ v _ HS.out 90 8 4 0 (by decide) (by decide) (by decide) (by decide)).mono ?_
      rintro e w33 ⟨rfl, hs, hk⟩
      have hs_ := Aside0.mk hs
      clear HS
      have HS := hs_
      clear hs_
      clear hs hk
      go_wp2_with fail
      refine (c_one w _ v _ HS.out 92 8 4 0 (by decide) (by decide) (by decide) (by decide)).mono ?_
      rintro e w34 ⟨rfl, hs, hk⟩
      have hs_ := Aside0.mk hs
      clear HS
      have HS := hs_
      clear hs_
      clear hs hk
      go_wp2_with fail
      refine (c_rng w _ v _ HS.out 96 126 8 4 0 (by decide) (by decide) (by decide) (by decide) (by decide) (by decide)).mono ?_
      rintro e w35 ⟨rfl, hs, hk⟩
      have hs_ := Aside0.mk hs
      clear HS
      have HS := hs_
      clear hs_
      clear hs hk
      go_wp2_with fail
      refine (c_rng w _ v _ HS.out 32 47 8 2 9 (by decide) (by decide) (by decide) (by decide) (by decide) (by decide)).mono ?_
      rintro e w36 ⟨rfl, hs, hk⟩
      have hs_ := Aside0.mk hs
      clear HS
      have HS := hs_
      clear hs_
      clear hs hk
      go_wp2_with fail
      refine (c_one w _ v _ HS.out 88 8 6 11 (by decide) (by decide) (by decide) (by decide)).mono ?_
      rintro e w37 ⟨rfl, hs, hk⟩
      have hs_ := Aside0.mk hs
      clear HS
      have HS := hs_
      clear hs_
      clear hs hk
      go_wp2_with fail
      refine (c_one w _ v _ HS.out 94 8 6 12 (by decide) (by decide) (by decide) (by decide)).mono ?_
      rintro e w38 ⟨rfl, hs, hk⟩
      have hs_ := Aside0.mk hs
      clear HS
      have HS := hs_
      clear hs_
      clear hs hk
      go_wp2_with fail
      refine (c_one w _ v _ HS.out 95 8 6 13 (by decide) (by decide) (by decide) (by decide)).mono ?_
      rintro e w39 ⟨rfl, hs, hk⟩
      have hs_ := Aside0.mk hs
      clear HS
      have HS := hs_
      clear hs_
      clear hs hk
      go_wp2_with fail
      refine (c_one w _ v _ HS.out 80 8 1 4 (by decide) (by decide) (by decide) (by decide)).mono ?_
      rintro e w40 ⟨rfl, hs, hk⟩
      have hs_ := Aside0.mk hs
      clear HS
      have HS := hs_
      clear hs_
      clear hs hk
      go_wp2_with fail
      refine (c_one w _ v _ HS.out 91 8 1 1 (by decide) (by decide) (by decide) (by decide)).mono ?_
      rintro e w41 ⟨rfl, hs, hk⟩
      have hs_ := Aside0.mk hs
      clear HS
      have HS := hs_
      clear hs_
      clear hs hk
      go_wp2_with fail
      refine (c_one w _ v _ HS.out 93 8 6 10 (by decide) (by decide) (by decide) (by decide)).mono ?_
      rintro e w42 ⟨rfl, hs, hk⟩
      have hs_ := Aside0.mk hs
      clear HS
      have HS := hs_
      clear hs_
      clear hs hk
      have hs_ := Aside0.mk (show St w _ v (L2 0) from HS.out)
      clear HS
      have HS := hs_
      clear hs_
      go_wp2_with fail
      refine (parser_r.calls 40 11 13 rows2 _ rows2_is).mono ?_
      rintro e wr2 ⟨vr, rfl, hr, hb⟩
      have hs_ := Aside0.mk (HS.out.grow hb)
      have HR := Aside0.mk (Kd.R_new' hr (Kd.R_lt HS.out.r))
      clear HS
      have HS := hs_
      clear hs_ hr hb
      obtain ⟨Ar2, cr2, er⟩ : ∃ A c, vr = .slice A 3 c := Kd.R_slice HR.out
      subst er
      have hr_ := Aside0.mk (show ∃ B, Kd.R (Kd.int .u8) 5 wr2 B (fun k_ => True ∧ some k_ ≠ v.ownBlock) (.slice Ar2 3 cr2) rows2 from ⟨_, HR.out⟩)
      clear HR
      have HR := hr_
      clear hr_
      go_wp2_with fail
      go_loopw [117] (fun u wr => ∃ (J : Int) (k : Nat), u = .int .i64 J ∧ Aside0 (J = (k : Int)) ∧ Aside0 (k ≤ 3) ∧ Aside0 (St w wr v (L2 k)) ∧ Aside0 (∃ B, Kd.R (Kd.int .u8) 5 wr B (fun k_ => True ∧ some k_ ≠ v.ownBlock) (.slice Ar2 3 cr2) rows2)) (fun u _ => 3 - (intOf u).toNat)
      case atStart => exact ⟨0, 0, rfl, ⟨rfl⟩, ⟨Nat.zero_le _⟩, HS, HR⟩
      case round =>
        clear HS HR
        obtain ⟨J, k, rfl, HJ, HK, HS, HR⟩ := hrel
        by_cases hlt : k < 3
        · have hj := HJ.out
          have tlt : decide (J < 3) = true := decide_eq_true (by omega)
          have p0 : 0 ≤ J := by omega
          have q0 : J < 3 := by omega
          have q1 : J < ((3 : Nat) : Int) := by omega
          have hwr : wrap64 (J + 1) = J + 1 := by unfold wrap64; omega
          obtain ⟨B, hR⟩ := HR.out
          obtain ⟨ad, e0, hx⟩ := Kd.at_int (Kd.R_reads' hR).2.2 J p0 (show J < ((rows2).length : Int) from q1)
          cases e0
          clear HR
          have HR := Aside0.mk hR
          clear hR q1
          have hsv : rd rows2 J = (k : Int) + 11 := by rw [hj]; exact rows2_at k hlt
          rw [hsv] at hx
          obtain ⟨s, hs0⟩ : ∃ s : Int, s = (k : Int) + 11 := ⟨_, rfl⟩
          rw [← hs0] at hx
          have HSV := Aside0.mk hs0
          have sb0 : 0 ≤ s := by omega
          have sb1 : s ≤ 15 := by omega
          clear hs0 hsv hj
          replace p0 := eq_true p0
          replace q0 := eq_true q0
          go_wp2_with fail
          refine (c_rng w _ v _ HS.out 0 23 s 7 s (by omega) (by omega) (by decide) (by decide) (by decide) (by decide)).mono ?_
          rintro e w43 ⟨rfl, hs, hk⟩
          have hs_ := Aside0.mk hs
          clear HS
          have HS := hs_
          clear hs_
          have hr_ := Aside0.mk (Kd.R_kept HR.out hk (fun k h1 h2 => h1.2 h2))
          clear HR
          have HR := hr_
          clear hr_
          clear hs hk
          go_wp2_with fail
          refine (c_one w _ v _ HS.out 25 s 7 s (by omega) (by omega) (by decide) (by decide)).mono ?_
          rintro e w44 ⟨rfl, hs, hk⟩
          have hs_ := Aside0.mk hs
          clear HS
          have HS := hs_
          clear hs_
          have hr_ := Aside0.mk (Kd.R_kept HR.out hk (fun k h1 h2 => h1.2 h2))
          clear HR
          have HR := hr_
          clear hr_
          clear hs hk
          go_wp2_with fail
          refine (c_rng w _ v _ HS.out 28 31 s 7 s (by omega) (by omega) (by decide) (by decide) (by decide) (by decide)).mono ?_
          rintro e w45 ⟨rfl, hs, hk⟩
          have hs_ := Aside0.mk hs
          clear HS
          have HS := hs_
          clear hs_
          have hr_ := Aside0.mk (Kd.R_kept HR.out hk (fun k h1 h2 => h1.2 h2))
          clear HR
          have HR := hr_
          clear hr_
          clear hs hk
          go_wp2_with fail
          refine (c_rng w _ v _ HS.out 32 127 s 7 s (by omega) (by omega) (by decide) (by decide) (by decide) (by decide)).mono ?_
          rintro e w46 ⟨rfl, hs, hk⟩
          have hs_ := Aside0.mk hs
          clear HS
          have HS := hs_
          clear hs_
          have hr_ := Aside0.mk (Kd.R_kept HR.out hk (fun k h1 h2 => h1.2 h2))
          clear HR
          have HR := hr_
          clear hr_
          clear hs hk
          go_wp2_with fail
          refine (c_one w _ v _ HS.out 27 s 4 8 (by omega) (by omega) (by decide) (by decide)).mono ?_
          rintro e w47 ⟨rfl, hs, hk⟩
          have hs_ := Aside0.mk hs
          clear HS
          have HS := hs_
          clear hs_
          have hr_ := Aside0.mk (Kd.R_kept HR.out hk (fun k h1 h2 => h1.2 h2))
          clear HR
          have HR := hr_
          clear hr_
          clear hs hk
          go_wp2_with fail
          refine (c_one w _ v _ HS.out 156 s 4 0 (by omega) (by omega) (by decide) (by decide)).mono ?_
          rintro e w48 ⟨rfl, hs, hk⟩
          have hs_ := Aside0.mk hs
          clear HS
          have HS := hs_
          clear hs_
          have hr_ := Aside0.mk (Kd.R_kept HR.out hk (fun k h1 h2 => h1.2 h2))
          clear HR
          have HR := hr_
          clear hr_
          clear hs hk
          go_wp2_with (first | ((with_reducible refine gate_dst (N := 144) rfl ?_); refine Kd.R_lit (Kd.int .u8) _ 5 ?hg (N := 144) ?hd (xs := ([24, 26] : List Int)) (inner := [.int .u8 24, .int .u8 26]) (ok := fun _ => True) (okp := fun _ => True) ?hr ?hp (fun _ hk => hk) trivial (Below.refl _ _) (Nat.le_refl _) (by simp) ?_; (case hd => rfl); (case hg => rfl); (case hr => first | (go_simp; done) | (go_simp; rfl)); (case hp => exact (Reps.one (show Kd.M (Kd.int .u8) _ _ _ 24 [.int .u8 24] from rfl) (Reps.one (show Kd.M (Kd.int .u8) _ _ _ 26 [.int .u8 26] from rfl) (Reps.none _ _)))); intro vl49 wl49 ho hb hg_ hnew_; clear hg_ hnew_; have HL49 := Aside0.mk (Kd.R_new' ho (Kd.R_lt HS.out.r)); have hs_ := Aside0.mk (HS.out.grow hb); clear HS; have HS := hs_; clear hs_; have hr_ := Aside0.mk (Kd.R_below HR.out hb); clear HR; have HR := hr_; clear hr_; clear hb ho; obtain ⟨Al49, cl49, el49⟩ := Kd.R_slice HL49.out; subst el49) | fail)
          refine (c_mny w _ v _ HS.out s 0 0 [24, 26] (by decide) (by decide) (by omega) (by omega) _ HL49.out (fun k h1 h2 => h1.2 h2)).mono ?_
          rintro e w49 ⟨rfl, hs, hk⟩
          have hs_ := Aside0.mk hs
          clear HS
          have HS := hs_
          clear hs_
          have hr_ := Aside0.mk (Kd.R_kept HR.out hk (fun k h1 h2 => h1.2 h2))
          clear HR
          have HR := hr_
          clear hr_
          clear HL49
          clear hs hk
          go_wp2_with fail
          go_roundw
          case rel =>
            refine ⟨wrap64 (J + 1), k + 1, rfl, ⟨by rw [hwr, HJ.out]; rfl⟩, ⟨hlt⟩, ?_, ⟨_, HR.out⟩⟩
            have h_ := HS.out
            rw [HSV.out] at h_
            exact ⟨h_⟩
          case measure =>
            have := HJ.out
            rw [hwr]
            simp [intOf]
            omega
        · have hj := HJ.out
          have tlt : decide (J < 3) = false := decide_eq_false (by omega)
          obtain rfl : k = 3 := by have := HK.out; omega
          clear hj HR HJ HK hlt
          go_wp2_with fail
          refine (c_rng w _ v _ HS.out 0 7 4 0 4 (by decide) (by decide) (by decide) (by decide) (by decide) (by decide)).mono ?_
          rintro e w50 ⟨rfl, hs, hk⟩
          have hs_ := Aside0.mk hs
          clear HS
          have HS := hs_
          clear hs_
          clear hs hk
          go_wp2_with fail
          refine (c_rng w _ v _ HS.out 14 23 4 0 4 (by decide) (by decide) (by decide) (by decide) (by decide) (by decide)).mono ?_
          rintro e w51 ⟨rfl, hs, hk⟩
          have hs_ := Aside0.mk hs
          clear HS
          have HS := hs_
          clear hs_
          clear hs hk
          go_wp2_with fail
          refine (c_one w _ v _ HS.out 25 4 0 4 (by decide) (by decide) (by decide) (by decide)).mono ?_
          rintro e w52 ⟨rfl, hs, hk⟩
          have hs_ := Aside0.mk hs
          clear HS
          have HS := hs_
          clear hs_
          clear hs hk
          go_wp2_with fail
          refine (c_rng w _ v _ HS.out 28 31 4 0 4 (by decide) (by decide) (by decide) (by decide) (by decide) (by decide)).mono ?_
          rintro e w53 ⟨rfl, hs, hk⟩
          have hs_ := Aside0.mk hs
          clear HS
          have HS := hs_
          clear hs_
          clear hs hk
          go_wp2_with fail
          refine (c_one w _ v _ HS.out 127 4 0 4 (by decide) (by decide) (by decide) (by decide)).mono ?_
          rintro e w54 ⟨rfl, hs, hk⟩
          have hs_ := Aside0.mk hs
          clear HS
          have HS := hs_
          clear hs_
          clear hs hk
          go_wp2_with fail
          refine (c_rng w _ v _ HS.out 32 47 4 2 5 (by decide) (by decide) (by decide) (by decide) (by decide) (by decide)).mono ?_
          rintro e w55 ⟨rfl, hs, hk⟩
          have hs_ := Aside0.mk hs
          clear HS
          have HS := hs_
          clear hs_
          clear hs hk
          go_wp2_with fail
          refine (c_rng w _ v _ HS.out 48 59 4 8 6 (by decide) (by decide) (by decide) (by decide) (by decide) (by decide)).mono ?_
          rintro e w56 ⟨rfl, hs, hk⟩
          have hs_ := Aside0.mk hs
          clear HS
          have HS := hs_
          clear hs_
          clear hs hk
          go_wp2_with fail
          refine (c_rng w _ v _ HS.out 60 63 4 3 6 (by decide) (by decide) (by decide) (by decide) (by decide) (by decide)).mono ?_
          rintro e w57 ⟨rfl, hs, hk⟩
          have hs_ := Aside0.mk hs
          clear HS
          have HS := hs_
          clear hs_
          clear hs hk
          go_wp2_with fail
          refine (c_rng w _ v _ HS.out 8 13 4 7 7 (by decide) (by decide) (by decide) (by decide) (by decide) (by decide)).mono ?_
          rintro e w58 ⟨rfl, hs, hk⟩
          have hs_ := Aside0.mk hs
          clear HS
          have HS := hs_
          clear hs_
          clear hs hk
          go_wp2_with fail
          refine (c_one w _ v _ HS.out 27 4 7 7 (by decide) (by decide) (by decide) (by decide)).mono ?_
          rintro e w59 ⟨rfl, hs, hk⟩
          have hs_ := Aside0.mk hs
          clear HS
          have HS := hs_
          clear hs_
          clear hs hk
          go_wp2_with fail
          refine (c_rng w _ v _ HS.out 64 126 4 6 7 (by decide) (by decide) (by decide) (by decide) (by decide) (by decide)).mono ?_
          rintro e w60 ⟨rfl, hs, hk⟩
          have hs_ := Aside0.mk hs
          clear HS
          have HS := hs_
          clear hs_
          clear hs hk
          go_wp2_with fail
          refine (c_rng w _ v _ HS.out 0 23 5 0 5 (by decide) (by decide) (by decide) (by decide) (by decide) (by decide)).mono ?_
          rintro e w61 ⟨rfl, hs, hk⟩
          have hs_ := Aside0.mk hs
          clear HS
          have HS := hs_
          clear hs_
          clear hs hk
          go_wp2_with fail
          refine (c_one w _ v _ HS.out 25 5 0 5 (by decide) (by decide) (by decide) (by decide)).mono ?_
          rintro e w62 ⟨rfl, hs, hk⟩
          have hs_ := Aside0.mk hs
          clear HS
          have HS := hs_
          clear hs_
          clear hs hk
          go_wp2_with fail
          refine (c_rng w _ v _ HS.out 28 31 5 0 5 (by decide) (by decide) (by decide) (by decide) (by decide) (by decide)).mono ?_
          rintro e w63 ⟨rfl, hs, hk⟩
          have hs_ := Aside0.mk hs
          clear HS
          have HS := hs_
          clear hs_
          clear hs hk
          go_wp2_with fail
          refine (c_rng w _ v _ HS.out 32 47 5 2 5 (by decide) (by decide) (by decide) (by decide) (by decide) (by decide)).mono ?_
          rintro e w64 ⟨rfl, hs, hk⟩
          have hs_ := Aside0.mk hs
          clear HS
          have HS := hs_
          clear hs_
          clear hs hk
          go_wp2_with fail
          refine (c_one w _ v _ HS.out 127 5 0 5 (by decide) (by decide) (by decide) (by decide)).mono ?_
          rintro e w65 ⟨rfl, hs, hk⟩
          have hs_ := Aside0.mk hs
          clear HS
          have HS := hs_
          clear hs_
          clear hs hk
          go_wp2_with fail
          refine (c_rng w _ v _ HS.out 48 63 5 6 7 (by decide) (by decide) (by decide) (by decide) (by decide) (by decide)).mono ?_
          rintro e w66 ⟨rfl, hs, hk⟩
          have hs_ := Aside0.mk hs
          clear HS
          have HS := hs_
          clear hs_
          clear hs hk
          go_wp2_with fail
          refine (c_rng w _ v _ HS.out 64 126 5 6 7 (by decide) (by decide) (by decide) (by decide) (by decide) (by decide)).mono ?_
          rintro e w67 ⟨rfl, hs, hk⟩
          have hs_ := Aside0.mk hs
          clear HS
          have HS := hs_
          clear hs_
          clear hs hk
          go_wp2_with fail
          refine (c_rng w _ v _ HS.out 0 23 6 0 6 (by decide) (by decide) (by decide) (by decide) (by decide) (by decide)).mono ?_
          rintro e w68 ⟨rfl, hs, hk⟩
          have hs_ := Aside0.mk hs
          clear HS
          have HS := hs_
          clear hs_
          clear hs hk
          go_wp2_with fail
          refine (c_one w _ v _ HS.out 25 6 0 6 (by decide) (by decide) (by decide) (by decide)).mono ?_
          rintro e w69 ⟨rfl, hs, hk⟩
          have hs_ := Aside0.mk hs
          clear HS
          have HS := hs_
          clear hs_
          clear hs hk
          go_wp2_with fail
          refine (c_rng w _ v _ HS.out 28 31 6 0 6 (by decide) (by decide) (by decide) (by decide) (by decide) (by decide)).mono ?_
          rintro e w70 ⟨rfl, hs, hk⟩
          have hs_ := Aside0.mk hs
          clear HS
          have HS := hs_
          clear hs_
          clear hs hk
          go_wp2_with fail
          refine (c_rng w _ v _ HS.out 48 59 6 8 6 (by decide) (by decide) (by decide) (by decide) (by decide) (by decide)).mono ?_
          rintro e w71 ⟨rfl, hs, hk⟩
          have hs_ := Aside0.mk hs
          clear HS
          have HS := hs_
          clear hs_
          clear hs hk
          go_wp2_with fail
          refine (c_one w _ v _ HS.out 127 6 0 6 (by decide) (by decide) (by decide) (by decide)).mono ?_
          rintro e w72 ⟨rfl, hs, hk⟩
          have hs_ := Aside0.mk hs
          clear HS
          have HS := hs_
          clear hs_
          clear hs hk
          go_wp2_with fail
          refine (c_rng w _ v _ HS.out 60 63 6 0 6 (by decide) (by decide) (by decide) (by decide) (by decide) (by decide)).mono ?_
          rintro e w73 ⟨rfl, hs, hk⟩
          have hs_ := Aside0.mk hs
          clear HS
          have HS := hs_
          clear hs_
          clear hs hk
          go_wp2_with fail
          refine (c_rng w _ v _ HS.out 32 47 6 2 5 (by decide) (by decide) (by decide) (by decide) (by decide) (by decide)).mono ?_
          rintro e w74 ⟨rfl, hs, hk⟩
          have hs_ := Aside0.mk hs
          clear HS
          have HS := hs_
          clear hs_
          clear hs hk
          go_wp2_with fail
          refine (c_rng w _ v _ HS.out 64 126 6 6 7 (by decide) (by decide) (by decide) (by decide) (by decide) (by decide)).mono ?_
          rintro e w75 ⟨rfl, hs, hk⟩
          have hs_ := Aside0.mk hs
          clear HS
          have HS := hs_
          clear hs_
          clear hs hk
          go_wp2_with fail
          refine (c_rng w _ v _ HS.out 0 23 7 7 7 (by decide) (by decide) (by decide) (by decide) (by decide) (by decide)).mono ?_
          rintro e w76 ⟨rfl, hs, hk⟩
          have hs_ := Aside0.mk hs
          clear HS
          have HS := hs_
          clear hs_
          clear hs hk
          go_wp2_with fail
          refine (c_one w _ v _ HS.out 25 7 7 7 (by decide) (by decide) (by decide) (by decide)).mono ?_
          rintro e w77 ⟨rfl, hs, hk⟩
          have hs_ := Aside0.mk hs
          clear HS
          have HS := hs_
          clear hs_
          clear hs hk
          go_wp2_with fail
          refine (c_rng w _ v _ HS.out 28 31 7 7 7 (by decide) (by decide) (by decide) (by decide) (by decide) (by decide)).mono ?_
          rintro e w78 ⟨rfl, hs, hk⟩
          have hs_ := Aside0.mk hs
          clear HS
          have HS := hs_
          clear hs_
          clear hs hk
          go_wp2_with fail
          refine (c_rng w _ v _ HS.out 32 126 7 7 7 (by decide) (by decide) (by decide) (by decide) (by decide) (by decide)).mono ?_
          rintro e w79 ⟨rfl, hs, hk⟩
          have hs_ := Aside0.mk hs
          clear HS
          have HS := hs_
          clear hs_
          clear hs hk
          go_wp2_with fail
          refine (c_one w _ v _ HS.out 127 7 7 7 (by decide) (by decide) (by decide) (by decide)).mono ?_
          rintro e w80 ⟨rfl, hs, hk⟩
          have hs_ := Aside0.mk hs
          clear HS
          have HS := hs_
          clear hs_
          clear hs hk
          go_wp2_with fail
          refine (c_rng w _ v _ HS.out 128 255 7 7 7 (by decide) (by decide) (by decide) (by decide) (by decide) (by decide)).mono ?_
          rintro e w81 ⟨rfl, hs, hk⟩
          have hs_ := Aside0.mk hs
          clear HS
          have HS := hs_
          clear hs_
          clear hs hk
          go_wp2_with fail
          refine (c_one w _ v _ HS.out 27 7 4 8 (by decide) (by decide) (by decide) (by decide)).mono ?_
          rintro e w82 ⟨rfl, hs, hk⟩
          have hs_ := Aside0.mk hs
          clear HS
          have HS := hs_
          clear hs_
          clear hs hk
          go_wp2_with fail
          refine (c_one w _ v _ HS.out 156 7 4 0 (by decide) (by decide) (by decide) (by decide)).mono ?_
          rintro e w83 ⟨rfl, hs, hk⟩
          have hs_ := Aside0.mk hs
          clear HS
          have HS := hs_
          clear hs_
          clear hs hk
          go_wp2_with (first | ((with_reducible refine gate_dst (N := 217) rfl ?_); refine Kd.R_lit (Kd.int .u8) _ 5 ?hg (N := 217) ?hd (xs := ([24, 26] : List Int)) (inner := [.int .u8 24, .int .u8 26]) (ok := fun _ => True) (okp := fun _ => True) ?hr ?hp (fun _ hk => hk) trivial (Below.refl _ _) (Nat.le_refl _) (by simp) ?_; (case hd => rfl); (case hg => rfl); (case hr => first | (go_simp; done) | (go_simp; rfl)); (case hp => exact (Reps.one (show Kd.M (Kd.int .u8) _ _ _ 24 [.int .u8 24] from rfl) (Reps.one (show Kd.M (Kd.int .u8) _ _ _ 26 [.int .u8 26] from rfl) (Reps.none _ _)))); intro vl84 wl84 ho hb hg_ hnew_; clear hg_ hnew_; have HL84 := Aside0.mk (Kd.R_new' ho (Kd.R_lt HS.out.r)); have hs_ := Aside0.mk (HS.out.grow hb); clear HS; have HS := hs_; clear hs_; clear hb ho; obtain ⟨Al84, cl84, el84⟩ := Kd.R_slice HL84.out; subst el84) | fail)
          refine (c_mny w _ v _ HS.out 7 0 0 [24, 26] (by decide) (by decide) (by decide) (by decide) _ HL84.out (fun k h1 h2 => h1.2 h2)).mono ?_
          rintro e w84 ⟨rfl, hs, hk⟩
          have hs_ := Aside0.mk hs
          clear HS
          have HS := hs_
          clear hs_
          clear HL84
          clear hs hk
          go_wp2_with fail
          refine (c_rng w _ v _ HS.out 0 23 3 5 3 (by decide) (by decide) (by decide) (by decide) (by decide) (by decide)).mono ?_
          rintro e w85 ⟨rfl, hs, hk⟩
          have hs_ := Aside0.mk hs
          clear HS
          have HS := hs_
          clear hs_
          clear hs hk
          go_wp2_with fail
          refine (c_one w _ v _ HS.out 25 3 5 3 (by decide) (by decide) (by decide) (by decide)).mono ?_
          rintro e w86 ⟨rfl, hs, hk⟩
          have hs_ := Aside0.mk hs
          clear HS
          have HS := hs_
          clear hs_
          clear hs hk
          go_wp2_with fail
          refine (c_rng w _ v _ HS.out 28 31 3 5 3 (by decide) (by decide) (by decide) (by decide) (by decide) (by decide)).mono ?_
          rintro e w87 ⟨rfl, hs, hk⟩
          have hs_ := Aside0.mk hs
          clear HS
          have HS := hs_
          clear hs_
          clear hs hk
          go_wp2_with fail
          refine (c_rng w _ v _ HS.out 48 59 3 8 3 (by decide) (by decide) (by decide) (by decide) (by decide) (by decide)).mono ?_
          rintro e w88 ⟨rfl, hs, hk⟩
          have hs_ := Aside0.mk hs
          clear HS
          have HS := hs_
          clear hs_
          clear hs hk
          go_wp2_with fail
          refine (c_one w _ v _ HS.out 127 3 0 3 (by decide) (by decide) (by decide) (by decide)).mono ?_
          rintro e w89 ⟨rfl, hs, hk⟩
          have hs_ := Aside0.mk hs
          clear HS
          have HS := hs_
          clear hs_
          clear hs hk
          go_wp2_with fail
          refine (c_rng w _ v _ HS.out 60 63 3 0 3 (by decide) (by decide) (by decide) (by decide) (by decide) (by decide)).mono ?_
          rintro e w90 ⟨rfl, hs, hk⟩
          have hs_ := Aside0.mk hs
          clear HS
          have HS := hs_
          clear hs_
          clear hs hk
          go_wp2_with fail
          refine (c_rng w _ v _ HS.out 64 126 3 4 0 (by decide) (by decide) (by decide) (by decide) (by decide) (by decide)).mono ?_
          rintro e w91 ⟨rfl, hs, hk⟩
          have hs_ := Aside0.mk hs
          clear HS
          have HS := hs_
          clear hs_
          clear hs hk
          go_wp2_with fail
          refine (c_rng w _ v _ HS.out 32 47 3 2 2 (by decide) (by decide) (by decide) (by decide) (by decide) (by decide)).mono ?_
          rintro e w92 ⟨rfl, hs, hk⟩
          have hs_ := Aside0.mk hs
          clear HS
          have HS := hs_
          clear hs_
          clear hs hk
          go_wp2_with fail
          refine (c_rng w _ v _ HS.out 0 23 2 5 2 (by decide) (by decide) (by decide) (by decide) (by decide) (by decide)).mono ?_
          rintro e w93 ⟨rfl, hs, hk⟩
          have hs_ := Aside0.mk hs
          clear HS
          have HS := hs_
          clear hs_
          clear hs hk
          go_wp2_with fail
          refine (c_one w _ v _ HS.out 25 2 5 2 (by decide) (by decide) (by decide) (by decide)).mono ?_
          rintro e w94 ⟨rfl, hs, hk⟩
          have hs_ := Aside0.mk hs
          clear HS
          have HS := hs_
          clear hs_
          clear hs hk
          go_wp2_with fail
          refine (c_rng w _ v _ HS.out 28 31 2 5 2 (by decide) (by decide) (by decide) (by decide) (by decide) (by decide)).mono ?_
          rintro e w95 ⟨rfl, hs, hk⟩
          have hs_ := Aside0.mk hs
          clear HS
          have HS := hs_
          clear hs_
          clear hs hk
          go_wp2_with fail
          refine (c_rng w _ v _ HS.out 32 47 2 2 2 (by decide) (by decide) (by decide) (by decide) (by decide) (by decide)).mono ?_
          rintro e w96 ⟨rfl, hs, hk⟩
          have hs_ := Aside0.mk hs
          clear HS
          have HS := hs_
          clear hs_
          clear hs hk
          go_wp2_with fail
          refine (c_one w _ v _ HS.out 127 2 0 2 (by decide) (by decide) (by decide) (by decide)).mono ?_
          rintro e w97 ⟨rfl, hs, hk⟩
          have hs_ := Aside0.mk hs
          clear HS
          have HS := hs_
          clear hs_
          clear hs hk
          go_wp2_with fail
          refine (c_rng w _ v _ HS.out 64 126 2 4 0 (by decide) (by decide) (by decide) (by decide) (by decide) (by decide)).mono ?_
          rintro e w98 ⟨rfl, hs, hk⟩
          have hs_ := Aside0.mk hs
          clear HS
          have HS := hs_
          clear hs_
          clear hs hk
          go_wp2_with fail
          refine (c_rng w _ v _ HS.out 48 63 2 0 0 (by decide) (by decide) (by decide) (by decide) (by decide) (by decide)).mono ?_
          rintro e w99 ⟨rfl, hs, hk⟩
          have hs_ := Aside0.mk hs
          clear HS
          have HS := hs_
          clear hs_
          clear hs hk
          go_wp2_with fail
          refine (c_rng w _ v _ HS.out 0 23 1 5 1 (by decide) (by decide) (by decide) (by decide) (by decide) (by decide)).mono ?_
          rintro e w100 ⟨rfl, hs, hk⟩
          have hs_ := Aside0.mk hs
          clear HS
          have HS := hs_
          clear hs_
          clear hs hk
          go_wp2_with fail
          refine (c_one w _ v _ HS.out 25 1 5 1 (by decide) (by decide) (by decide) (by decide)).mono ?_
          rintro e w101 ⟨rfl, hs, hk⟩
          have hs_ := Aside0.mk hs
          clear HS
          have HS := hs_
          clear hs_
          clear hs hk
          go_wp2_with fail
          refine (c_rng w _ v _ HS.out 28 31 1 5 1 (by decide) (by decide) (by decide) (by decide) (by decide) (by decide)).mono ?_
          rintro e w102 ⟨rfl, hs, hk⟩
          have hs_ := Aside0.mk hs
          clear HS
          have HS := hs_
          clear hs_
          clear hs hk
          go_wp2_with fail
          refine (c_one w _ v _ HS.out 127 1 0 1 (by decide) (by decide) (by decide) (by decide)).mono ?_
          rintro e w103 ⟨rfl, hs, hk⟩
          have hs_ := Aside0.mk hs
          clear HS
          have HS := hs_
          clear hs_
          clear hs hk
          go_wp2_with fail
          refine (c_rng w _ v _ HS.out 64 126 1 4 0 (by decide) (by decide) (by decide) (by decide) (by decide) (by decide)).mono ?_
          rintro e w104 ⟨rfl, hs, hk⟩
          have hs_ := Aside0.mk hs
          clear HS
          have HS := hs_
          clear hs_
          clear hs hk
          go_wp2_with fail
          refine (c_rng w _ v _ HS.out 32 47 1 2 2 (by decide) (by decide) (by decide) (by decide) (by decide) (by decide)).mono ?_
          rintro e w105 ⟨rfl, hs, hk⟩
          have hs_ := Aside0.mk hs
          clear HS
          have HS := hs_
          clear hs_
          clear hs hk
          go_wp2_with fail
          refine (c_rng w _ v _ HS.out 48 59 1 8 3 (by decide) (by decide) (by decide) (by decide) (by decide) (by decide)).mono ?_
          rintro e w106 ⟨rfl, hs, hk⟩
          have hs_ := Aside0.mk hs
          clear HS
          have HS := hs_
          clear hs_
          clear hs hk
          go_wp2_with fail
          refine (c_rng w _ v _ HS.out 60 63 1 3 3 (by decide) (by decide) (by decide) (by decide) (by decide) (by decide)).mono ?_
          rintro e w107 ⟨rfl, hs, hk⟩
          have hs_ := Aside0.mk hs
          clear HS
          have HS := hs_
          clear hs_
          clear hs hk
          go_wp2_with fail
          refine (c_rng w _ v _ HS.out 0 6 10 0 10 (by decide) (by decide) (by decide) (by decide) (by decide) (by decide)).mono ?_
          rintro e w108 ⟨rfl, hs, hk⟩
          have hs_ := Aside0.mk hs
          clear HS
          have HS := hs_
          clear hs_
          clear hs hk
          go_wp2_with fail
          refine (c_rng w _ v _ HS.out 8 23 10 0 10 (by decide) (by decide) (by decide) (by decide) (by decide) (by decide)).mono ?_
          rintro e w109 ⟨rfl, hs, hk⟩
          have hs_ := Aside0.mk hs
          clear HS
          have HS := hs_
          clear hs_
          clear hs hk
          go_wp2_with fail
          refine (c_one w _ v _ HS.out 25 10 0 10 (by decide) (by decide) (by decide) (by decide)).mono ?_
          rintro e w110 ⟨rfl, hs, hk⟩
          have hs_ := Aside0.mk hs
          clear HS
          have HS := hs_
          clear hs_
          clear hs hk
          go_wp2_with fail
          refine (c_rng w _ v _ HS.out 28 31 10 0 10 (by decide) (by decide) (by decide) (by decide) (by decide) (by decide)).mono ?_
          rintro e w111 ⟨rfl, hs, hk⟩
          have hs_ := Aside0.mk hs
          clear HS
          have HS := hs_
          clear hs_
          clear hs hk
          go_wp2_with fail
          refine (c_rng w _ v _ HS.out 32 255 10 7 10 (by decide) (by decide) (by decide) (by decide) (by decide) (by decide)).mono ?_
          rintro e w112 ⟨rfl, hs, hk⟩
          have hs_ := Aside0.mk hs
          clear HS
          have HS := hs_
          clear hs_
          clear hs hk
          go_wp2_with fail
          refine (c_one w _ v _ HS.out 27 10 4 8 (by decide) (by decide) (by decide) (by decide)).mono ?_
          rintro e w113 ⟨rfl, hs, hk⟩
          have hs_ := Aside0.mk hs
          clear HS
          have HS := hs_
          clear hs_
          clear hs hk
          go_wp2_with fail
          refine (c_one w _ v _ HS.out 7 10 4 0 (by decide) (by decide) (by decide) (by decide)).mono ?_
          rintro e w114 ⟨rfl, hs, hk⟩
          have hs_ := Aside0.mk hs
          clear HS
          have HS := hs_
          clear hs_
          clear hs hk
          go_wp2_with fail
          refine (c_one w _ v _ HS.out 156 10 4 0 (by decide) (by decide) (by decide) (by decide)).mono ?_
          rintro e w115 ⟨rfl, hs, hk⟩
          have hs_ := Aside0.mk hs
          clear HS
          have HS := hs_
          clear hs_
          clear hs hk
          go_wp2_with (first | ((with_reducible refine gate_dst (N := 282) rfl ?_); refine Kd.R_lit (Kd.int .u8) _ 5 ?hg (N := 282) ?hd (xs := ([24, 26] : List Int)) (inner := [.int .u8 24, .int .u8 26]) (ok := fun _ => True) (okp := fun _ => True) ?hr ?hp (fun _ hk => hk) trivial (Below.refl _ _) (Nat.le_refl _) (by simp) ?_; (case hd => rfl); (case hg => rfl); (case hr => first | (go_simp; done) | (go_simp; rfl)); (case hp => exact (Reps.one (show Kd.M (Kd.int .u8) _ _ _ 24 [.int .u8 24] from rfl) (Reps.one (show Kd.M (Kd.int .u8) _ _ _ 26 [.int .u8 26] from rfl) (Reps.none _ _)))); intro vl116 wl116 ho hb hg_ hnew_; clear hg_ hnew_; have HL116 := Aside0.mk (Kd.R_new' ho (Kd.R_lt HS.out.r)); have hs_ := Aside0.mk (HS.out.grow hb); clear HS; have HS := hs_; clear hs_; clear hb ho; obtain ⟨Al116, cl116, el116⟩ := Kd.R_slice HL116.out; subst el116) | fail)
          refine (c_mny w _ v _ HS.out 10 0 0 [24, 26] (by decide) (by decide) (by decide) (by decide) _ HL116.out (fun k h1 h2 => h1.2 h2)).mono ?_
          rintro e w116 ⟨rfl, hs, hk⟩
          have hs_ := Aside0.mk hs
          clear HS
          have HS := hs_
          clear hs_
          clear HL116
          clear hs hk
          go_wp2_with fail
          go_ret
          exact ⟨_, rfl, HS.out⟩

end Go.Proofs.YtmpmfdghdaofhaaDoor.Gen
