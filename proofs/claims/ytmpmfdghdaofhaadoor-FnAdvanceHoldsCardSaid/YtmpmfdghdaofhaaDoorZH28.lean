/- Texts of this claim, joined; what isn't needed is left out (wip/slim.py). -/
import Derived.Test.YtmpmfdghdaofhaaDoorZH27
import Derived.Test.YtmpmfdghdaofhaaDoorZH9
namespace Go.Proofs.YtmpmfdghdaofhaaDoor.Ma
set_option linter.unusedVariables false
set_option linter.unusedSimpArgs false
open Go Go.RowKit Go.Proofs.YtmpmfdghdaofhaaDoorW.PrintWords Go.Proofs.YtmpmfdghdaofhaaDoorW.PrintLast Go.Proofs.YtmpmfdghdaofhaaDoorW.PrintMore
theorem trans_at (st c n a : Int) (h0 : 0 ≤ st) (h1 : st < 16) (h2 : 0 ≤ c) (h3 : c < 256) (hn : nx st c = n) (ha : ac st c = a) (w : World) :
    Calls Tryd.prog 19 #[.agg #[], .int .u8 st, .int .u8 c] w fun e w' => e = .returned (.tuple #[.int .u8 n, .int .u8 a]) ∧ Below w.heap.size w w' := by
  subst hn ha
  exact trans st c h0 h1 h2 h3 w
theorem Ptr.far {w wd wu : World} {gb go : Nat} (h : Ptr w gb go) (h1 : Below w.heap.size w wd) (h2 : Below wd.heap.size wd wu) (hs : wd.heap.size = w.heap.size) : Ptr wu gb go :=
  (h2.block gb (by rw [hs]; exact blk_lt h)).trans ((h1.block gb (blk_lt h)).trans h)
theorem OutS.far {w wd wu : World} {B go : Nat} {xs : List (List Value)} (h : OutS w B go xs) (h1 : Below w.heap.size w wd) (h2 : Below wd.heap.size wd wu) (hs : wd.heap.size = w.heap.size) (hb : B ≤ w.heap.size) : OutS wu B go xs := by
  obtain ⟨v, ho, hr⟩ := h
  exact ⟨v, (h2.block go (by rw [hs]; exact blk_lt ho)).trans ((h1.block go (blk_lt ho)).trans ho), Kd.R_below (Kd.R_below hr h1) h2⟩
def adv_T : Bool × List (List Nat × List Nat) := (true, [([], []), ([], []), ([1], [1]), ([2], [2]), ([3], [3]), ([], []), ([0, 4, 5, 0], [0, 4, 5]), ([6], [6]), ([7], [7]), ([7], [7]), ([8, 6, 0, 1, 2, 3, 4, 5, 6, 7, 8], [8]), ([9, 10, 0, 1, 2, 3, 4, 5, 6, 7, 8, 9, 10], [9])])
def adv_B : List Nat := [0, 0, 2, 6, 14, 0, 63, 127, 255, 255, 511, 2047]
theorem adv__tab : rtab .any (opsOf Tryd.f51 1) = adv_T := by kernel_rfl
theorem adv__bits : waitsOk adv_T.2 adv_B = true := by kernel_rfl
set_option maxHeartbeats 8000000 in
set_option maxRecDepth 100000 in
theorem adv_esc (w : World) (B g gb gp gd  : Nat) (dl pl cmd p0 : Int) (h : PS w g gb gp gd dl pl cmd 0 p0) (hg : B ≤ g) (hgp : B ≤ gp) (hbase : B ≤ w.heap.size) :
    Calls Tryd.prog 51 #[.pointer (some ⟨g, 0, none⟩), .int .u8 27] w fun e w' => e = .returned (.int .u8 1) ∧ PS w' g gb gp gd dl 0 0 8 2147483647 ∧ Below B w w' ∧ Far w w' g gp := by
  have HH := Aside0.mk h
  have h14 : w.cell? ⟨g, 14, none⟩ = some (.int .u8 0) := (h.cell 14).trans rfl
  clear h
  go_enter Tryd.func51, Tryd.ntmps51
  go_wp2_with fail
  refine start_ (n := 12) (S := (fun w' => w'.cell? ⟨g, 14, none⟩ = some (.int .u8 0))) (ds := []) #[false, false, false, false, false, false, false, false, false, false, false, false] (by kernel_rfl) rfl rfl h14 (fun hHeld => ?_)
  refine with_tabW adv__tab adv__bits (fun HT_ HW_ => ?_)
  have H0 := Aside0.mk (show PS w.drew g gb gp gd dl pl cmd 0 p0 from HH.out)
  have HBD := Aside0.mk (show Below w.heap.size w w.drew from (Below.refl _ w).drew)
  have HSZ := Aside0.mk (show w.drew.heap.size = w.heap.size from rfl)
  generalize w.drew = wd at H0 HBD HSZ hHeld ⊢
  refine pure_ (i := 1) (N := some 9) (v := ?_) (a' := ?_) (zF 12 2) rfl rfl (any_of HT_.out (by kernel_rfl)) (fun _ _ _ h => h) (Or.inl ⟨by rfl, ?_⟩) ?_ ?_
  rotate_left; (intro w'; go_simp; with_reducible rfl); rotate_left; (simp only [Act.put, zA, zZ, zS, i64_w, i32_w]; rfl)
  refine pure_ (i := 2) (N := some 10) (v := ?_) (a' := ?_) (zF 12 6) rfl rfl (any_of HT_.out (by kernel_rfl)) (fun _ _ _ h => h) (Or.inl ⟨by rfl, ?_⟩) ?_ ?_
  rotate_left; (intro w'; go_simp; with_reducible rfl); rotate_left; (simp only [Act.put, zA, zZ, zS, i64_w, i32_w]; rfl)
  refine pure_ (i := 3) (N := some 11) (v := ?_) (a' := ?_) (zF 12 14) rfl rfl (any_of HT_.out (by kernel_rfl)) (fun _ _ _ h => h) (Or.inl ⟨by rfl, ?_⟩) ?_ ?_
  rotate_left; (intro w'; go_simp; with_reducible rfl); rotate_left; (simp only [Act.put, zA, zZ, zS, i64_w, i32_w]; rfl)
  refine pure_ (i := 5) (N := some 13) (v := ?_) (a' := ?_) (zF 12 46) rfl rfl (any_of HT_.out (by kernel_rfl)) (fun _ _ _ h => h) (Or.inl ⟨by rfl, ?_⟩) ?_ ?_
  rotate_left; (intro w'; go_simp; with_reducible rfl); rotate_left; (simp only [Act.put, zA, zZ, zS, i64_w, i32_w]; rfl)
  refine take_ (i := 4) (N := some 12) (v := ?_) (a' := ?_) (zF 12 62) rfl rfl (take_ofW HT_.out HW_.out (by kernel_rfl)) (fun _ _ _ h => h) (Or.inl ⟨by rfl, ?_⟩) hHeld ?_ ?_
  rotate_left; (rintro w' s0; go_simp; with_reducible rfl); rotate_left; (simp only [Act.put, zA, zZ, zS, i64_w, i32_w]; rfl)
  refine one_ (i := 0) (N := some 8) (zF 12 63) rfl rfl (one_of HT_.out (by kernel_rfl)) (by decide) (fun K hK => ?_)
  refine goes_ Tryd.func18 (by kernel_rfl) rfl #[] (by rfl) rfl rfl (by simp) ?_
  refine (table _).mono ?_
  rintro e wt ⟨rfl, hbt⟩
  refine ⟨_, rfl, ?_⟩
  have HB1 := Aside0.mk hbt
  have H1 := Aside0.mk (H0.out.far hbt)
  clear hbt
  refine hK.out _ _ ((H1.out.cell 14).trans rfl) (fun hHeld => ?_)
  clear hK K
  refine norm_ (a' := ?_) ?_ ?_
  rotate_left
  · show Act.put _ (some 8) _ = _
    simp only [Act.put, zA, zZ, zS, i64_w, i32_w]
    rfl
  refine one_ (i := 6) (N := some 14) (zF 12 127) rfl rfl (one_of HT_.out (by kernel_rfl)) (by decide) (fun K hK => ?_)
  refine goes_ Tryd.func19 (by kernel_rfl) rfl #[.agg #[], .int .u8 0, .int .u8 27] (by rfl) rfl rfl (by (try simp only [List.map_toArray, List.map_cons, List.map_nil]); first | done | rfl | (simp [Act.eval, *]; done)) ?_
  refine (trans_at 0 27 8 1 (by omega) (by omega) (by omega) (by omega) (by decide +kernel) (by decide +kernel) _).mono ?_
  rintro e wu ⟨rfl, hbt⟩
  refine ⟨_, rfl, ?_⟩
  have HB2 := Aside0.mk (below_step HB1.out hbt)
  have H2 := Aside0.mk (H1.out.far hbt)
  clear hbt
  refine hK.out _ _ ((H2.out.cell 14).trans rfl) (fun hHeld => ?_)
  clear hK K
  refine norm_ (a' := ?_) ?_ ?_
  rotate_left
  · show Act.put _ (some 14) _ = _
    simp only [Act.put, zA, zZ, zS, i64_w, i32_w]
    rfl
  refine pure_ (i := 7) (N := some 7) (v := ?_) (a' := ?_) (zF 12 255) rfl rfl (any_of HT_.out (by kernel_rfl)) (fun _ _ _ h => h) (Or.inl ⟨by rfl, ?_⟩) ?_ ?_
  rotate_left; (intro w'; go_simp; with_reducible rfl); rotate_left; (simp only [Act.put, zA, zZ, zS, i64_w, i32_w]; rfl)
  refine pure_ (i := 8) (N := some 15) (v := ?_) (a' := ?_) (zF 12 511) rfl rfl (any_of HT_.out (by kernel_rfl)) (fun _ _ _ h => h) (Or.inl ⟨by rfl, ?_⟩) ?_ ?_
  rotate_left; (intro w'; go_simp; with_reducible rfl); rotate_left; (simp only [Act.put, zA, zZ, zS, i64_w, i32_w]; rfl)
  refine pure_ (i := 9) (N := some 16) (v := ?_) (a' := ?_) (zF 12 1023) rfl rfl (any_of HT_.out (by kernel_rfl)) (fun _ _ _ h => h) (Or.inl ⟨by rfl, ?_⟩) ?_ ?_
  rotate_left; (intro w'; go_simp; with_reducible rfl); rotate_left; (simp only [Act.put, zA, zZ, zS, i64_w, i32_w]; rfl)
  refine pure_ (i := 10) (N := some 5) (v := ?_) (a' := ?_) (zF 12 2047) rfl rfl (any_of HT_.out (by kernel_rfl)) (fun _ _ _ h => h) (Or.inl ⟨by rfl, ?_⟩) ?_ ?_
  rotate_left; (intro w'; go_simp; with_reducible rfl); rotate_left; (simp only [Act.put, zA, zZ, zS, i64_w, i32_w]; rfl)
  refine pure_ (i := 11) (N := some 6) (v := ?_) (a' := ?_) (zF 12 4095) rfl rfl (any_of HT_.out (by kernel_rfl)) (fun _ _ _ h => h) (Or.inl ⟨by rfl, ?_⟩) ?_ ?_
  rotate_left; (intro w'; go_simp; with_reducible rfl); rotate_left; (simp only [Act.put, zA, zZ, zS, i64_w, i32_w]; rfl)
  refine done_ (done_of HT_.out (by kernel_rfl)) ?_
  clear hHeld
  have h14u : wu.cell? ⟨g, 14, none⟩ = some (.int .u8 0) := (H2.out.cell 14).trans rfl
  go_wp2_with fail
  refine (perf_clear wu B g gb gp gd dl pl cmd 0 p0 8 27 H2.out hg hgp).mono ?_
  rintro e w1 ⟨rfl, hp1, hb1, hf1⟩
  have h14w1 : w1.cell? ⟨g, 14, none⟩ = some (.int .u8 0) := (hp1.cell 14).trans rfl
  have f14w1 := hp1.free 14
  have HP1 := Aside0.mk hp1
  clear hp1
  go_wp2
  go_ret
  exact ⟨rfl, HP1.out.set_st 8, (((HBD.out.mono hbase).trans (HB2.out.mono (by rw [HSZ.out]; exact hbase))).trans hb1).setCell hg _, (((Far.of_below HBD.out).trans (Far.of_below HB2.out)).trans hf1).set _⟩
set_option maxHeartbeats 8000000 in
set_option maxRecDepth 100000 in
theorem adv_br (w : World) (B g gb gp gd  : Nat) (dl pl cmd p0 : Int) (h : PS w g gb gp gd dl pl cmd 8 p0) (hg : B ≤ g) (hgp : B ≤ gp) (hbase : B ≤ w.heap.size) :
    Calls Tryd.prog 51 #[.pointer (some ⟨g, 0, none⟩), .int .u8 91] w fun e w' => e = .returned (.int .u8 1) ∧ PS w' g gb gp gd dl 0 0 1 2147483647 ∧ Below B w w' ∧ Far w w' g gp := by
  have HH := Aside0.mk h
  have h14 : w.cell? ⟨g, 14, none⟩ = some (.int .u8 8) := (h.cell 14).trans rfl
  clear h
  go_enter Tryd.func51, Tryd.ntmps51
  go_wp2_with fail
  refine start_ (n := 12) (S := (fun w' => w'.cell? ⟨g, 14, none⟩ = some (.int .u8 8))) (ds := []) #[false, false, false, false, false, false, false, false, false, false, false, false] (by kernel_rfl) rfl rfl h14 (fun hHeld => ?_)
  refine with_tabW adv__tab adv__bits (fun HT_ HW_ => ?_)
  have H0 := Aside0.mk (show PS w.drew g gb gp gd dl pl cmd 8 p0 from HH.out)
  have HBD := Aside0.mk (show Below w.heap.size w w.drew from (Below.refl _ w).drew)
  have HSZ := Aside0.mk (show w.drew.heap.size = w.heap.size from rfl)
  generalize w.drew = wd at H0 HBD HSZ hHeld ⊢
  refine pure_ (i := 1) (N := some 9) (v := ?_) (a' := ?_) (zF 12 2) rfl rfl (any_of HT_.out (by kernel_rfl)) (fun _ _ _ h => h) (Or.inl ⟨by rfl, ?_⟩) ?_ ?_
  rotate_left; (intro w'; go_simp; with_reducible rfl); rotate_left; (simp only [Act.put, zA, zZ, zS, i64_w, i32_w]; rfl)
  refine pure_ (i := 2) (N := some 10) (v := ?_) (a' := ?_) (zF 12 6) rfl rfl (any_of HT_.out (by kernel_rfl)) (fun _ _ _ h => h) (Or.inl ⟨by rfl, ?_⟩) ?_ ?_
  rotate_left; (intro w'; go_simp; with_reducible rfl); rotate_left; (simp only [Act.put, zA, zZ, zS, i64_w, i32_w]; rfl)
  refine pure_ (i := 3) (N := some 11) (v := ?_) (a' := ?_) (zF 12 14) rfl rfl (any_of HT_.out (by kernel_rfl)) (fun _ _ _ h => h) (Or.inl ⟨by rfl, ?_⟩) ?_ ?_
  rotate_left; (intro w'; go_simp; with_reducible rfl); rotate_left; (simp only [Act.put, zA, zZ, zS, i64_w, i32_w]; rfl)
  refine pure_ (i := 5) (N := some 13) (v := ?_) (a' := ?_) (zF 12 46) rfl rfl (any_of HT_.out (by kernel_rfl)) (fun _ _ _ h => h) (Or.inl ⟨by rfl, ?_⟩) ?_ ?_
  rotate_left; (intro w'; go_simp; with_reducible rfl); rotate_left; (simp only [Act.put, zA, zZ, zS, i64_w, i32_w]; rfl)
  refine take_ (i := 4) (N := some 12) (v := ?_) (a' := ?_) (zF 12 62) rfl rfl (take_ofW HT_.out HW_.out (by kernel_rfl)) (fun _ _ _ h => h) (Or.inl ⟨by rfl, ?_⟩) hHeld ?_ ?_
  rotate_left; (rintro w' s0; go_simp; with_reducible rfl); rotate_left; (simp only [Act.put, zA, zZ, zS, i64_w, i32_w]; rfl)
  refine one_ (i := 0) (N := some 8) (zF 12 63) rfl rfl (one_of HT_.out (by kernel_rfl)) (by decide) (fun K hK => ?_)
  refine goes_ Tryd.func18 (by kernel_rfl) rfl #[] (by rfl) rfl rfl (by simp) ?_
  refine (table _).mono ?_
  rintro e wt ⟨rfl, hbt⟩
  refine ⟨_, rfl, ?_⟩
  have HB1 := Aside0.mk hbt
  have H1 := Aside0.mk (H0.out.far hbt)
  clear hbt
  refine hK.out _ _ ((H1.out.cell 14).trans rfl) (fun hHeld => ?_)
  clear hK K
  refine norm_ (a' := ?_) ?_ ?_
  rotate_left
  · show Act.put _ (some 8) _ = _
    simp only [Act.put, zA, zZ, zS, i64_w, i32_w]
    rfl
  refine one_ (i := 6) (N := some 14) (zF 12 127) rfl rfl (one_of HT_.out (by kernel_rfl)) (by decide) (fun K hK => ?_)
  refine goes_ Tryd.func19 (by kernel_rfl) rfl #[.agg #[], .int .u8 8, .int .u8 91] (by rfl) rfl rfl (by (try simp only [List.map_toArray, List.map_cons, List.map_nil]); first | done | rfl | (simp [Act.eval, *]; done)) ?_
  refine (trans_at 8 91 1 1 (by omega) (by omega) (by omega) (by omega) (by decide +kernel) (by decide +kernel) _).mono ?_
  rintro e wu ⟨rfl, hbt⟩
  refine ⟨_, rfl, ?_⟩
  have HB2 := Aside0.mk (below_step HB1.out hbt)
  have H2 := Aside0.mk (H1.out.far hbt)
  clear hbt
  refine hK.out _ _ ((H2.out.cell 14).trans rfl) (fun hHeld => ?_)
  clear hK K
  refine norm_ (a' := ?_) ?_ ?_
  rotate_left
  · show Act.put _ (some 14) _ = _
    simp only [Act.put, zA, zZ, zS, i64_w, i32_w]
    rfl
  refine pure_ (i := 7) (N := some 7) (v := ?_) (a' := ?_) (zF 12 255) rfl rfl (any_of HT_.out (by kernel_rfl)) (fun _ _ _ h => h) (Or.inl ⟨by rfl, ?_⟩) ?_ ?_
  rotate_left; (intro w'; go_simp; with_reducible rfl); rotate_left; (simp only [Act.put, zA, zZ, zS, i64_w, i32_w]; rfl)
  refine pure_ (i := 8) (N := some 15) (v := ?_) (a' := ?_) (zF 12 511) rfl rfl (any_of HT_.out (by kernel_rfl)) (fun _ _ _ h => h) (Or.inl ⟨by rfl, ?_⟩) ?_ ?_
  rotate_left; (intro w'; go_simp; with_reducible rfl); rotate_left; (simp only [Act.put, zA, zZ, zS, i64_w, i32_w]; rfl)
  refine pure_ (i := 9) (N := some 16) (v := ?_) (a' := ?_) (zF 12 1023) rfl rfl (any_of HT_.out (by kernel_rfl)) (fun _ _ _ h => h) (Or.inl ⟨by rfl, ?_⟩) ?_ ?_
  rotate_left; (intro w'; go_simp; with_reducible rfl); rotate_left; (simp only [Act.put, zA, zZ, zS, i64_w, i32_w]; rfl)
  refine pure_ (i := 10) (N := some 5) (v := ?_) (a' := ?_) (zF 12 2047) rfl rfl (any_of HT_.out (by kernel_rfl)) (fun _ _ _ h => h) (Or.inl ⟨by rfl, ?_⟩) ?_ ?_
  rotate_left; (intro w'; go_simp; with_reducible rfl); rotate_left; (simp only [Act.put, zA, zZ, zS, i64_w, i32_w]; rfl)
  refine pure_ (i := 11) (N := some 6) (v := ?_) (a' := ?_) (zF 12 4095) rfl rfl (any_of HT_.out (by kernel_rfl)) (fun _ _ _ h => h) (Or.inl ⟨by rfl, ?_⟩) ?_ ?_
  rotate_left; (intro w'; go_simp; with_reducible rfl); rotate_left; (simp only [Act.put, zA, zZ, zS, i64_w, i32_w]; rfl)
  refine done_ (done_of HT_.out (by kernel_rfl)) ?_
  clear hHeld
  have h14u : wu.cell? ⟨g, 14, none⟩ = some (.int .u8 8) := (H2.out.cell 14).trans rfl
  go_wp2_with fail
  refine (perf_clear wu B g gb gp gd dl pl cmd 8 p0 1 91 H2.out hg hgp).mono ?_
  rintro e w1 ⟨rfl, hp1, hb1, hf1⟩
  have h14w1 : w1.cell? ⟨g, 14, none⟩ = some (.int .u8 8) := (hp1.cell 14).trans rfl
  have HP1 := Aside0.mk hp1
  clear hp1
  go_wp2_with fail
  refine (perf_clear w1 B g gb gp gd dl 0 0 8 2147483647 1 91 HP1.out hg hgp).mono ?_
  rintro e w2 ⟨rfl, hp2, hb2, hf2⟩
  have h14w2 : w2.cell? ⟨g, 14, none⟩ = some (.int .u8 8) := (hp2.cell 14).trans rfl
  have f14w2 := hp2.free 14
  have HP2 := Aside0.mk hp2
  clear hp2
  go_wp2
  go_ret
  exact ⟨rfl, HP2.out.set_st 1, ((((HBD.out.mono hbase).trans (HB2.out.mono (by rw [HSZ.out]; exact hbase))).trans hb1).trans hb2).setCell hg _, ((((Far.of_below HBD.out).trans (Far.of_below HB2.out)).trans hf1).trans hf2).set _⟩
set_option maxHeartbeats 8000000 in
set_option maxRecDepth 100000 in
theorem adv_1 (w : World) (B g gb gp gd  : Nat) (dl cmd : Int) (h : PS w g gb gp gd dl 0 cmd 1 2147483647) (hg : B ≤ g) (hgp : B ≤ gp) (hbase : B ≤ w.heap.size) :
    Calls Tryd.prog 51 #[.pointer (some ⟨g, 0, none⟩), .int .u8 49] w fun e w' => e = .returned (.int .u8 8) ∧ PS w' g gb gp gd dl 0 cmd 3 1 ∧ Below B w w' ∧ Far w w' g gp := by
  have HH := Aside0.mk h
  have h14 : w.cell? ⟨g, 14, none⟩ = some (.int .u8 1) := (h.cell 14).trans rfl
  clear h
  go_enter Tryd.func51, Tryd.ntmps51
  go_wp2_with fail
  refine start_ (n := 12) (S := (fun w' => w'.cell? ⟨g, 14, none⟩ = some (.int .u8 1))) (ds := []) #[false, false, false, false, false, false, false, false, false, false, false, false] (by kernel_rfl) rfl rfl h14 (fun hHeld => ?_)
  refine with_tabW adv__tab adv__bits (fun HT_ HW_ => ?_)
  have H0 := Aside0.mk (show PS w.drew g gb gp gd dl 0 cmd 1 2147483647 from HH.out)
  have HBD := Aside0.mk (show Below w.heap.size w w.drew from (Below.refl _ w).drew)
  have HSZ := Aside0.mk (show w.drew.heap.size = w.heap.size from rfl)
  generalize w.drew = wd at H0 HBD HSZ hHeld ⊢
  refine pure_ (i := 1) (N := some 9) (v := ?_) (a' := ?_) (zF 12 2) rfl rfl (any_of HT_.out (by kernel_rfl)) (fun _ _ _ h => h) (Or.inl ⟨by rfl, ?_⟩) ?_ ?_
  rotate_left; (intro w'; go_simp; with_reducible rfl); rotate_left; (simp only [Act.put, zA, zZ, zS, i64_w, i32_w]; rfl)
  refine pure_ (i := 2) (N := some 10) (v := ?_) (a' := ?_) (zF 12 6) rfl rfl (any_of HT_.out (by kernel_rfl)) (fun _ _ _ h => h) (Or.inl ⟨by rfl, ?_⟩) ?_ ?_
  rotate_left; (intro w'; go_simp; with_reducible rfl); rotate_left; (simp only [Act.put, zA, zZ, zS, i64_w, i32_w]; rfl)
  refine pure_ (i := 3) (N := some 11) (v := ?_) (a' := ?_) (zF 12 14) rfl rfl (any_of HT_.out (by kernel_rfl)) (fun _ _ _ h => h) (Or.inl ⟨by rfl, ?_⟩) ?_ ?_
  rotate_left; (intro w'; go_simp; with_reducible rfl); rotate_left; (simp only [Act.put, zA, zZ, zS, i64_w, i32_w]; rfl)
  refine pure_ (i := 5) (N := some 13) (v := ?_) (a' := ?_) (zF 12 46) rfl rfl (any_of HT_.out (by kernel_rfl)) (fun _ _ _ h => h) (Or.inl ⟨by rfl, ?_⟩) ?_ ?_
  rotate_left; (intro w'; go_simp; with_reducible rfl); rotate_left; (simp only [Act.put, zA, zZ, zS, i64_w, i32_w]; rfl)
  refine take_ (i := 4) (N := some 12) (v := ?_) (a' := ?_) (zF 12 62) rfl rfl (take_ofW HT_.out HW_.out (by kernel_rfl)) (fun _ _ _ h => h) (Or.inl ⟨by rfl, ?_⟩) hHeld ?_ ?_
  rotate_left; (rintro w' s0; go_simp; with_reducible rfl); rotate_left; (simp only [Act.put, zA, zZ, zS, i64_w, i32_w]; rfl)
  refine one_ (i := 0) (N := some 8) (zF 12 63) rfl rfl (one_of HT_.out (by kernel_rfl)) (by decide) (fun K hK => ?_)
  refine goes_ Tryd.func18 (by kernel_rfl) rfl #[] (by rfl) rfl rfl (by simp) ?_
  refine (table _).mono ?_
  rintro e wt ⟨rfl, hbt⟩
  refine ⟨_, rfl, ?_⟩
  have HB1 := Aside0.mk hbt
  have H1 := Aside0.mk (H0.out.far hbt)
  clear hbt
  refine hK.out _ _ ((H1.out.cell 14).trans rfl) (fun hHeld => ?_)
  clear hK K
  refine norm_ (a' := ?_) ?_ ?_
  rotate_left
  · show Act.put _ (some 8) _ = _
    simp only [Act.put, zA, zZ, zS, i64_w, i32_w]
    rfl
  refine one_ (i := 6) (N := some 14) (zF 12 127) rfl rfl (one_of HT_.out (by kernel_rfl)) (by decide) (fun K hK => ?_)
  refine goes_ Tryd.func19 (by kernel_rfl) rfl #[.agg #[], .int .u8 1, .int .u8 49] (by rfl) rfl rfl (by (try simp only [List.map_toArray, List.map_cons, List.map_nil]); first | done | rfl | (simp [Act.eval, *]; done)) ?_
  refine (trans_at 1 49 3 8 (by omega) (by omega) (by omega) (by omega) (by decide +kernel) (by decide +kernel) _).mono ?_
  rintro e wu ⟨rfl, hbt⟩
  refine ⟨_, rfl, ?_⟩
  have HB2 := Aside0.mk (below_step HB1.out hbt)
  have H2 := Aside0.mk (H1.out.far hbt)
  clear hbt
  refine hK.out _ _ ((H2.out.cell 14).trans rfl) (fun hHeld => ?_)
  clear hK K
  refine norm_ (a' := ?_) ?_ ?_
  rotate_left
  · show Act.put _ (some 14) _ = _
    simp only [Act.put, zA, zZ, zS, i64_w, i32_w]
    rfl
  refine pure_ (i := 7) (N := some 7) (v := ?_) (a' := ?_) (zF 12 255) rfl rfl (any_of HT_.out (by kernel_rfl)) (fun _ _ _ h => h) (Or.inl ⟨by rfl, ?_⟩) ?_ ?_
  rotate_left; (intro w'; go_simp; with_reducible rfl); rotate_left; (simp only [Act.put, zA, zZ, zS, i64_w, i32_w]; rfl)
  refine pure_ (i := 8) (N := some 15) (v := ?_) (a' := ?_) (zF 12 511) rfl rfl (any_of HT_.out (by kernel_rfl)) (fun _ _ _ h => h) (Or.inl ⟨by rfl, ?_⟩) ?_ ?_
  rotate_left; (intro w'; go_simp; with_reducible rfl); rotate_left; (simp only [Act.put, zA, zZ, zS, i64_w, i32_w]; rfl)
  refine pure_ (i := 9) (N := some 16) (v := ?_) (a' := ?_) (zF 12 1023) rfl rfl (any_of HT_.out (by kernel_rfl)) (fun _ _ _ h => h) (Or.inl ⟨by rfl, ?_⟩) ?_ ?_
  rotate_left; (intro w'; go_simp; with_reducible rfl); rotate_left; (simp only [Act.put, zA, zZ, zS, i64_w, i32_w]; rfl)
  refine pure_ (i := 10) (N := some 5) (v := ?_) (a' := ?_) (zF 12 2047) rfl rfl (any_of HT_.out (by kernel_rfl)) (fun _ _ _ h => h) (Or.inl ⟨by rfl, ?_⟩) ?_ ?_
  rotate_left; (intro w'; go_simp; with_reducible rfl); rotate_left; (simp only [Act.put, zA, zZ, zS, i64_w, i32_w]; rfl)
  refine pure_ (i := 11) (N := some 6) (v := ?_) (a' := ?_) (zF 12 4095) rfl rfl (any_of HT_.out (by kernel_rfl)) (fun _ _ _ h => h) (Or.inl ⟨by rfl, ?_⟩) ?_ ?_
  rotate_left; (intro w'; go_simp; with_reducible rfl); rotate_left; (simp only [Act.put, zA, zZ, zS, i64_w, i32_w]; rfl)
  refine done_ (done_of HT_.out (by kernel_rfl)) ?_
  clear hHeld
  have h14u : wu.cell? ⟨g, 14, none⟩ = some (.int .u8 1) := (H2.out.cell 14).trans rfl
  replace H2 := Aside0.mk H2.out
  go_wp2_with fail
  refine (perf_param wu B g gb gp gd dl cmd H2.out hg hgp).mono ?_
  rintro e w1 ⟨rfl, hp1, hb1, hf1⟩
  have h14w1 : w1.cell? ⟨g, 14, none⟩ = some (.int .u8 1) := (hp1.cell 14).trans rfl
  have f14w1 := hp1.free 14
  have HP1 := Aside0.mk hp1
  clear hp1
  go_wp2
  go_ret
  exact ⟨rfl, HP1.out.set_st 3, (((HBD.out.mono hbase).trans (HB2.out.mono (by rw [HSZ.out]; exact hbase))).trans hb1).setCell hg _, (((Far.of_below HBD.out).trans (Far.of_below HB2.out)).trans hf1).set _⟩
set_option maxHeartbeats 8000000 in
set_option maxRecDepth 100000 in
theorem adv_m (w : World) (B g gb gp gd go : Nat)  (xs : List (List Value)) (h : PS w g gb gp gd 0 0 0 3 1) (hg : B ≤ g) (hgp : B ≤ gp) (hbase : B ≤ w.heap.size) (hB : B ≤ go) (hx : xs.length ≤ 1000000) (hptr : Ptr w gb go) (hout : OutS w B go xs) :
    Calls Tryd.prog 51 #[.pointer (some ⟨g, 0, none⟩), .int .u8 109] w fun e w' => e = .returned (.int .u8 4) ∧ (∃ (Ai : Option Addr) (ci : Nat), OutS w' B go (xs ++ [[.int .i64 2, .int .i64 0, .int .u8 0, .int .i64 109, .slice Ai 1 ci, .slice none 0 0]])) ∧ PS w' g gb gp gd 0 1 109 0 1 ∧ Ptr w' gb go ∧ Below B w w' ∧ FarU w w' := by
  have HH := Aside0.mk h
  have h14 : w.cell? ⟨g, 14, none⟩ = some (.int .u8 3) := (h.cell 14).trans rfl
  have PT := Aside0.mk hptr
  have OT := Aside0.mk hout
  clear hptr hout
  clear h
  go_enter Tryd.func51, Tryd.ntmps51
  go_wp2_with fail
  refine start_ (n := 12) (S := (fun w' => w'.cell? ⟨g, 14, none⟩ = some (.int .u8 3))) (ds := []) #[false, false, false, false, false, false, false, false, false, false, false, false] (by kernel_rfl) rfl rfl h14 (fun hHeld => ?_)
  refine with_tabW adv__tab adv__bits (fun HT_ HW_ => ?_)
  have H0 := Aside0.mk (show PS w.drew g gb gp gd 0 0 0 3 1 from HH.out)
  have HBD := Aside0.mk (show Below w.heap.size w w.drew from (Below.refl _ w).drew)
  have HSZ := Aside0.mk (show w.drew.heap.size = w.heap.size from rfl)
  generalize w.drew = wd at H0 HBD HSZ hHeld ⊢
  refine pure_ (i := 1) (N := some 9) (v := ?_) (a' := ?_) (zF 12 2) rfl rfl (any_of HT_.out (by kernel_rfl)) (fun _ _ _ h => h) (Or.inl ⟨by rfl, ?_⟩) ?_ ?_
  rotate_left; (intro w'; go_simp; with_reducible rfl); rotate_left; (simp only [Act.put, zA, zZ, zS, i64_w, i32_w]; rfl)
  refine pure_ (i := 2) (N := some 10) (v := ?_) (a' := ?_) (zF 12 6) rfl rfl (any_of HT_.out (by kernel_rfl)) (fun _ _ _ h => h) (Or.inl ⟨by rfl, ?_⟩) ?_ ?_
  rotate_left; (intro w'; go_simp; with_reducible rfl); rotate_left; (simp only [Act.put, zA, zZ, zS, i64_w, i32_w]; rfl)
  refine pure_ (i := 3) (N := some 11) (v := ?_) (a' := ?_) (zF 12 14) rfl rfl (any_of HT_.out (by kernel_rfl)) (fun _ _ _ h => h) (Or.inl ⟨by rfl, ?_⟩) ?_ ?_
  rotate_left; (intro w'; go_simp; with_reducible rfl); rotate_left; (simp only [Act.put, zA, zZ, zS, i64_w, i32_w]; rfl)
  refine pure_ (i := 5) (N := some 13) (v := ?_) (a' := ?_) (zF 12 46) rfl rfl (any_of HT_.out (by kernel_rfl)) (fun _ _ _ h => h) (Or.inl ⟨by rfl, ?_⟩) ?_ ?_
  rotate_left; (intro w'; go_simp; with_reducible rfl); rotate_left; (simp only [Act.put, zA, zZ, zS, i64_w, i32_w]; rfl)
  refine take_ (i := 4) (N := some 12) (v := ?_) (a' := ?_) (zF 12 62) rfl rfl (take_ofW HT_.out HW_.out (by kernel_rfl)) (fun _ _ _ h => h) (Or.inl ⟨by rfl, ?_⟩) hHeld ?_ ?_
  rotate_left; (rintro w' s0; go_simp; with_reducible rfl); rotate_left; (simp only [Act.put, zA, zZ, zS, i64_w, i32_w]; rfl)
  refine one_ (i := 0) (N := some 8) (zF 12 63) rfl rfl (one_of HT_.out (by kernel_rfl)) (by decide) (fun K hK => ?_)
  refine goes_ Tryd.func18 (by kernel_rfl) rfl #[] (by rfl) rfl rfl (by simp) ?_
  refine (table _).mono ?_
  rintro e wt ⟨rfl, hbt⟩
  refine ⟨_, rfl, ?_⟩
  have HB1 := Aside0.mk hbt
  have H1 := Aside0.mk (H0.out.far hbt)
  clear hbt
  refine hK.out _ _ ((H1.out.cell 14).trans rfl) (fun hHeld => ?_)
  clear hK K
  refine norm_ (a' := ?_) ?_ ?_
  rotate_left
  · show Act.put _ (some 8) _ = _
    simp only [Act.put, zA, zZ, zS, i64_w, i32_w]
    rfl
  refine one_ (i := 6) (N := some 14) (zF 12 127) rfl rfl (one_of HT_.out (by kernel_rfl)) (by decide) (fun K hK => ?_)
  refine goes_ Tryd.func19 (by kernel_rfl) rfl #[.agg #[], .int .u8 3, .int .u8 109] (by rfl) rfl rfl (by (try simp only [List.map_toArray, List.map_cons, List.map_nil]); first | done | rfl | (simp [Act.eval, *]; done)) ?_
  refine (trans_at 3 109 0 4 (by omega) (by omega) (by omega) (by omega) (by decide +kernel) (by decide +kernel) _).mono ?_
  rintro e wu ⟨rfl, hbt⟩
  refine ⟨_, rfl, ?_⟩
  have HB2 := Aside0.mk (below_step HB1.out hbt)
  have H2 := Aside0.mk (H1.out.far hbt)
  clear hbt
  refine hK.out _ _ ((H2.out.cell 14).trans rfl) (fun hHeld => ?_)
  clear hK K
  refine norm_ (a' := ?_) ?_ ?_
  rotate_left
  · show Act.put _ (some 14) _ = _
    simp only [Act.put, zA, zZ, zS, i64_w, i32_w]
    rfl
  refine pure_ (i := 7) (N := some 7) (v := ?_) (a' := ?_) (zF 12 255) rfl rfl (any_of HT_.out (by kernel_rfl)) (fun _ _ _ h => h) (Or.inl ⟨by rfl, ?_⟩) ?_ ?_
  rotate_left; (intro w'; go_simp; with_reducible rfl); rotate_left; (simp only [Act.put, zA, zZ, zS, i64_w, i32_w]; rfl)
  refine pure_ (i := 8) (N := some 15) (v := ?_) (a' := ?_) (zF 12 511) rfl rfl (any_of HT_.out (by kernel_rfl)) (fun _ _ _ h => h) (Or.inl ⟨by rfl, ?_⟩) ?_ ?_
  rotate_left; (intro w'; go_simp; with_reducible rfl); rotate_left; (simp only [Act.put, zA, zZ, zS, i64_w, i32_w]; rfl)
  refine pure_ (i := 9) (N := some 16) (v := ?_) (a' := ?_) (zF 12 1023) rfl rfl (any_of HT_.out (by kernel_rfl)) (fun _ _ _ h => h) (Or.inl ⟨by rfl, ?_⟩) ?_ ?_
  rotate_left; (intro w'; go_simp; with_reducible rfl); rotate_left; (simp only [Act.put, zA, zZ, zS, i64_w, i32_w]; rfl)
  refine pure_ (i := 10) (N := some 5) (v := ?_) (a' := ?_) (zF 12 2047) rfl rfl (any_of HT_.out (by kernel_rfl)) (fun _ _ _ h => h) (Or.inl ⟨by rfl, ?_⟩) ?_ ?_
  rotate_left; (intro w'; go_simp; with_reducible rfl); rotate_left; (simp only [Act.put, zA, zZ, zS, i64_w, i32_w]; rfl)
  refine pure_ (i := 11) (N := some 6) (v := ?_) (a' := ?_) (zF 12 4095) rfl rfl (any_of HT_.out (by kernel_rfl)) (fun _ _ _ h => h) (Or.inl ⟨by rfl, ?_⟩) ?_ ?_
  rotate_left; (intro w'; go_simp; with_reducible rfl); rotate_left; (simp only [Act.put, zA, zZ, zS, i64_w, i32_w]; rfl)
  refine done_ (done_of HT_.out (by kernel_rfl)) ?_
  clear hHeld
  have h14u : wu.cell? ⟨g, 14, none⟩ = some (.int .u8 3) := (H2.out.cell 14).trans rfl
  have P2 := Aside0.mk (show Ptr wu gb go from (PT.out.far HBD.out HB2.out HSZ.out))
  have O2 := Aside0.mk (OT.out.far HBD.out HB2.out HSZ.out hbase)
  have HS2 := Aside0.mk (show B ≤ wu.heap.size from Nat.le_trans (by rw [HSZ.out]; exact hbase) HB2.out.size)
  go_wp2_with fail
  refine (perf_dispatch wu B g gb gp gd go xs H2.out hg hgp HS2.out hB hx P2.out O2.out).mono ?_
  rintro e w1 ⟨rfl, ⟨Ai, ci, ho1⟩, hp1, hpt1, hb1, hu1⟩
  have h14w1 : w1.cell? ⟨g, 14, none⟩ = some (.int .u8 3) := (hp1.cell 14).trans rfl
  have f14w1 := hp1.free 14
  have HP1 := Aside0.mk hp1
  have PT1 := Aside0.mk hpt1
  have OT1 := Aside0.mk ho1
  have HU1 := Aside0.mk hu1
  clear hp1 hpt1 ho1 hu1
  go_wp2
  go_ret
  exact ⟨rfl, ⟨Ai, ci, OT1.out.set HP1.out.1 14 _⟩, HP1.out.set_st 0, PT1.out.set HP1.out.1 14 _, (((HBD.out.mono hbase).trans (HB2.out.mono (by rw [HSZ.out]; exact hbase))).trans hb1).setCell hg _, by (intro k cc t hk a b c d; have hu := HU1.out k cc t ((HB2.out.block k (by rw [HSZ.out]; exact blk_lt hk)).trans ((HBD.out.block k (blk_lt hk)).trans hk)) a b c d; exact (Below.heap_setCell _ ⟨g, 14, none⟩ _ k (fun e => by (subst e; rw [HP1.out.1] at hu; simp at hu; exact c hu.2.symm))).trans hu)⟩
set_option maxHeartbeats 8000000 in
set_option maxRecDepth 100000 in
theorem advance_ (w : World) (g : Nat) (st b : Int) (h14 : w.cell? ⟨g, 14, none⟩ = some (.int .u8 st)) (hne : (st == 14) = false) (Q : Ending → World → Prop) (hq : ∀ e w', Q e w' → ∃ x, e = .returned (.int .u8 x))
    (hc : Calls Tryd.prog 51 #[.pointer (some ⟨g, 0, none⟩), .int .u8 b] w Q) : Calls Tryd.prog 29 #[.pointer (some ⟨g, 0, none⟩), .int .u8 b] w Q := by
  have HC := Aside0.mk hc
  have HQ := Aside0.mk hq
  clear hc hq
  go_enter Tryd.func29, Tryd.ntmps29
  go_wp2_with fail
  refine HC.out.mono ?_
  intro e w1 hQ
  obtain ⟨x, rfl⟩ := HQ.out e w1 hQ
  have hQ := Aside0.mk hQ
  go_wp2
  exact hQ.out
set_option maxHeartbeats 8000000 in
set_option maxRecDepth 100000 in
theorem adv_a (w : World) (B g gb gp gd go : Nat) (dl pl cmd p0 : Int) (xs : List (List Value)) (h : PS w g gb gp gd dl pl cmd 0 p0) (hg : B ≤ g) (hgp : B ≤ gp) (hbase : B ≤ w.heap.size) (hB : B ≤ go) (hx : xs.length ≤ 1000000) (hptr : Ptr w gb go) (hout : OutS w B go xs) :
    Calls Tryd.prog 51 #[.pointer (some ⟨g, 0, none⟩), .int .u8 65] w fun e w' => e = .returned (.int .u8 9) ∧ PS w' g gb gp gd dl pl 65 0 p0 ∧ Ptr w' gb go ∧ OutS w' B go (xs ++ [[.int .i64 0, .int .i64 65, .int .u8 0, .int .i64 0, .slice none 0 0, .slice none 0 0]]) ∧ Below B w w' := by
  have HH := Aside0.mk h
  have h14 : w.cell? ⟨g, 14, none⟩ = some (.int .u8 0) := (h.cell 14).trans rfl
  have PT := Aside0.mk hptr
  have OT := Aside0.mk hout
  clear hptr hout
  clear h
  go_enter Tryd.func51, Tryd.ntmps51
  go_wp2_with fail
  refine start_ (n := 12) (S := (fun w' => w'.cell? ⟨g, 14, none⟩ = some (.int .u8 0))) (ds := []) #[false, false, false, false, false, false, false, false, false, false, false, false] (by kernel_rfl) rfl rfl h14 (fun hHeld => ?_)
  refine with_tabW adv__tab adv__bits (fun HT_ HW_ => ?_)
  have H0 := Aside0.mk (show PS w.drew g gb gp gd dl pl cmd 0 p0 from HH.out)
  have HBD := Aside0.mk (show Below w.heap.size w w.drew from (Below.refl _ w).drew)
  have HSZ := Aside0.mk (show w.drew.heap.size = w.heap.size from rfl)
  generalize w.drew = wd at H0 HBD HSZ hHeld ⊢
  refine pure_ (i := 1) (N := some 9) (v := ?_) (a' := ?_) (zF 12 2) rfl rfl (any_of HT_.out (by kernel_rfl)) (fun _ _ _ h => h) (Or.inl ⟨by rfl, ?_⟩) ?_ ?_
  rotate_left; (intro w'; go_simp; with_reducible rfl); rotate_left; (simp only [Act.put, zA, zZ, zS, i64_w, i32_w]; rfl)
  refine pure_ (i := 2) (N := some 10) (v := ?_) (a' := ?_) (zF 12 6) rfl rfl (any_of HT_.out (by kernel_rfl)) (fun _ _ _ h => h) (Or.inl ⟨by rfl, ?_⟩) ?_ ?_
  rotate_left; (intro w'; go_simp; with_reducible rfl); rotate_left; (simp only [Act.put, zA, zZ, zS, i64_w, i32_w]; rfl)
  refine pure_ (i := 3) (N := some 11) (v := ?_) (a' := ?_) (zF 12 14) rfl rfl (any_of HT_.out (by kernel_rfl)) (fun _ _ _ h => h) (Or.inl ⟨by rfl, ?_⟩) ?_ ?_
  rotate_left; (intro w'; go_simp; with_reducible rfl); rotate_left; (simp only [Act.put, zA, zZ, zS, i64_w, i32_w]; rfl)
  refine pure_ (i := 5) (N := some 13) (v := ?_) (a' := ?_) (zF 12 46) rfl rfl (any_of HT_.out (by kernel_rfl)) (fun _ _ _ h => h) (Or.inl ⟨by rfl, ?_⟩) ?_ ?_
  rotate_left; (intro w'; go_simp; with_reducible rfl); rotate_left; (simp only [Act.put, zA, zZ, zS, i64_w, i32_w]; rfl)
  refine take_ (i := 4) (N := some 12) (v := ?_) (a' := ?_) (zF 12 62) rfl rfl (take_ofW HT_.out HW_.out (by kernel_rfl)) (fun _ _ _ h => h) (Or.inl ⟨by rfl, ?_⟩) hHeld ?_ ?_
  rotate_left; (rintro w' s0; go_simp; with_reducible rfl); rotate_left; (simp only [Act.put, zA, zZ, zS, i64_w, i32_w]; rfl)
  refine one_ (i := 0) (N := some 8) (zF 12 63) rfl rfl (one_of HT_.out (by kernel_rfl)) (by decide) (fun K hK => ?_)
  refine goes_ Tryd.func18 (by kernel_rfl) rfl #[] (by rfl) rfl rfl (by simp) ?_
  refine (table _).mono ?_
  rintro e wt ⟨rfl, hbt⟩
  refine ⟨_, rfl, ?_⟩
  have HB1 := Aside0.mk hbt
  have H1 := Aside0.mk (H0.out.far hbt)
  clear hbt
  refine hK.out _ _ ((H1.out.cell 14).trans rfl) (fun hHeld => ?_)
  clear hK K
  refine norm_ (a' := ?_) ?_ ?_
  rotate_left
  · show Act.put _ (some 8) _ = _
    simp only [Act.put, zA, zZ, zS, i64_w, i32_w]
    rfl
  refine one_ (i := 6) (N := some 14) (zF 12 127) rfl rfl (one_of HT_.out (by kernel_rfl)) (by decide) (fun K hK => ?_)
  refine goes_ Tryd.func19 (by kernel_rfl) rfl #[.agg #[], .int .u8 0, .int .u8 65] (by rfl) rfl rfl (by (try simp only [List.map_toArray, List.map_cons, List.map_nil]); first | done | rfl | (simp [Act.eval, *]; done)) ?_
  refine (trans_at 0 65 0 9 (by omega) (by omega) (by omega) (by omega) (by decide +kernel) (by decide +kernel) _).mono ?_
  rintro e wu ⟨rfl, hbt⟩
  refine ⟨_, rfl, ?_⟩
  have HB2 := Aside0.mk (below_step HB1.out hbt)
  have H2 := Aside0.mk (H1.out.far hbt)
  clear hbt
  refine hK.out _ _ ((H2.out.cell 14).trans rfl) (fun hHeld => ?_)
  clear hK K
  refine norm_ (a' := ?_) ?_ ?_
  rotate_left
  · show Act.put _ (some 14) _ = _
    simp only [Act.put, zA, zZ, zS, i64_w, i32_w]
    rfl
  refine pure_ (i := 7) (N := some 7) (v := ?_) (a' := ?_) (zF 12 255) rfl rfl (any_of HT_.out (by kernel_rfl)) (fun _ _ _ h => h) (Or.inl ⟨by rfl, ?_⟩) ?_ ?_
  rotate_left; (intro w'; go_simp; with_reducible rfl); rotate_left; (simp only [Act.put, zA, zZ, zS, i64_w, i32_w]; rfl)
  refine pure_ (i := 8) (N := some 15) (v := ?_) (a' := ?_) (zF 12 511) rfl rfl (any_of HT_.out (by kernel_rfl)) (fun _ _ _ h => h) (Or.inl ⟨by rfl, ?_⟩) ?_ ?_
  rotate_left; (intro w'; go_simp; with_reducible rfl); rotate_left; (simp only [Act.put, zA, zZ, zS, i64_w, i32_w]; rfl)
  refine pure_ (i := 9) (N := some 16) (v := ?_) (a' := ?_) (zF 12 1023) rfl rfl (any_of HT_.out (by kernel_rfl)) (fun _ _ _ h => h) (Or.inl ⟨by rfl, ?_⟩) ?_ ?_
  rotate_left; (intro w'; go_simp; with_reducible rfl); rotate_left; (simp only [Act.put, zA, zZ, zS, i64_w, i32_w]; rfl)
  refine pure_ (i := 10) (N := some 5) (v := ?_) (a' := ?_) (zF 12 2047) rfl rfl (any_of HT_.out (by kernel_rfl)) (fun _ _ _ h => h) (Or.inl ⟨by rfl, ?_⟩) ?_ ?_
  rotate_left; (intro w'; go_simp; with_reducible rfl); rotate_left; (simp only [Act.put, zA, zZ, zS, i64_w, i32_w]; rfl)
  refine pure_ (i := 11) (N := some 6) (v := ?_) (a' := ?_) (zF 12 4095) rfl rfl (any_of HT_.out (by kernel_rfl)) (fun _ _ _ h => h) (Or.inl ⟨by rfl, ?_⟩) ?_ ?_
  rotate_left; (intro w'; go_simp; with_reducible rfl); rotate_left; (simp only [Act.put, zA, zZ, zS, i64_w, i32_w]; rfl)
  refine done_ (done_of HT_.out (by kernel_rfl)) ?_
  clear hHeld
  have h14u : wu.cell? ⟨g, 14, none⟩ = some (.int .u8 0) := (H2.out.cell 14).trans rfl
  have P2 := Aside0.mk (show Ptr wu gb go from (PT.out.far HBD.out HB2.out HSZ.out))
  have O2 := Aside0.mk (OT.out.far HBD.out HB2.out HSZ.out hbase)
  have HS2 := Aside0.mk (show B ≤ wu.heap.size from Nat.le_trans (by rw [HSZ.out]; exact hbase) HB2.out.size)
  go_wp2_with fail
  refine (perf_print wu B g gb gp gd go dl pl cmd 0 p0 0 xs H2.out hg hgp hB hx HS2.out P2.out O2.out).mono ?_
  rintro e w1 ⟨rfl, hp1, hpt1, ho1, hb1⟩
  have h14w1 : w1.cell? ⟨g, 14, none⟩ = some (.int .u8 0) := (hp1.cell 14).trans rfl
  have f14w1 := hp1.free 14
  have HP1 := Aside0.mk hp1
  have PT1 := Aside0.mk hpt1
  have OT1 := Aside0.mk ho1
  clear hp1 hpt1 ho1
  go_wp2
  go_ret
  exact ⟨rfl, HP1.out.set_st 0, PT1.out.set HP1.out.1 14 _, OT1.out.set HP1.out.1 14 _, (((HBD.out.mono hbase).trans (HB2.out.mono (by rw [HSZ.out]; exact hbase))).trans hb1).setCell hg _⟩
end Go.Proofs.YtmpmfdghdaofhaaDoor.Ma
