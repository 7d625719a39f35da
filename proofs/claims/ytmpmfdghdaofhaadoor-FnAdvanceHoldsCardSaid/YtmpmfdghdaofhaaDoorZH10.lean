/- Texts of this claim, joined; what isn't needed is left out (wip/slim.py). -/
import Derived.Test.YtmpmfdghdaofhaaDoorZH9
namespace Go.Proofs.YtmpmfdghdaofhaaDoor.Pm
set_option linter.unusedVariables false
set_option linter.unusedSimpArgs false
open Go Go.RowKit Go.Proofs.YtmpmfdghdaofhaaDoorW.PrintWords Go.Proofs.YtmpmfdghdaofhaaDoorW.PrintLast Go.Proofs.YtmpmfdghdaofhaaDoorW.PrintMore
def c2T : Bool × List (List Nat × List Nat) := (true, [([], []), ([0], [0]), ([1], [1]), ([2], [2]), ([], []), ([4], [4]), ([3, 5], [3, 5]), ([0, 0, 1, 2, 3, 4, 5, 6], [0]), ([7, 0, 1, 2, 3, 4, 5, 6], [7]), ([8, 6, 0, 1, 2, 3, 4, 5, 6], [6, 8])])
def c2B : List Nat := [0, 1, 3, 7, 0, 16, 63, 127, 255, 511]
theorem c2_tab : rtab .any (opsOf Tryd.f67 2) = c2T := by kernel_rfl
theorem c2_bits : waitsOk c2T.2 c2B = true := by kernel_rfl
def c3T : Bool × List (List Nat × List Nat) := (true, [([], []), ([0], [0]), ([1], [1]), ([2], [2]), ([], []), ([4], [4]), ([], []), ([5, 6], [5, 6]), ([3, 7], [3, 7]), ([0, 0, 1, 2, 3, 4, 5, 6, 7, 8], [0]), ([9, 0, 1, 2, 3, 4, 5, 6, 7, 8], [9]), ([10, 8, 0, 1, 2, 3, 4, 5, 6, 7, 8], [8, 10])])
def c3B : List Nat := [0, 1, 3, 7, 0, 16, 0, 112, 255, 511, 1023, 2047]
theorem c3_tab : rtab .any (opsOf Tryd.f67 3) = c3T := by kernel_rfl
theorem c3_bits : waitsOk c3T.2 c3B = true := by kernel_rfl
def crc (cmd : Int) : Nat → Int → Int
  | 0, b => Go.bits .or .i64 (Go.bits .andNot .i64 cmd (wrap64 255)) b
  | 1, b => Go.bits .or .i64 (Go.bits .andNot .i64 cmd (wrap64 65280)) (wrap64 (b * 256))
  | 2, b => Go.bits .or .i64 (Go.bits .andNot .i64 cmd (wrap64 16711680)) (wrap64 (b * 65536))
  | _, b => Go.bits .or .i64 (Go.bits .andNot .i64 cmd (wrap64 4278190080)) (wrap64 (b * 16777216))
def pcollect (p : PM) (b : Int) : PM := if p.pl < 4 then ⟨p.ps, p.da, p.dl, p.pl + 1, crc p.cmd p.pl b, p.st⟩ else p
set_option maxHeartbeats 8000000 in
set_option maxRecDepth 100000 in
theorem collect_ (hs : Nat → Value) (B : Nat) (w0 w : World) (g gp gd n m : Nat) (p : PM) (h : PV hs B w0 w g gp gd n m p) (b : Int) (hb0 : 0 ≤ b) (hb1 : b < 256) :
    Calls Tryd.prog 67 #[.pointer (some ⟨g, 0, none⟩), .int .u8 b] w fun e w' => e = .returned (.tuple #[]) ∧ PV hs B w0 w' g gp gd n m (pcollect p b) := by
  obtain ⟨ps, da, dl, pl, cmd, st⟩ := p
  have hwb : wrap64 b = b := by unfold wrap64; omega
  obtain ⟨w1, hw1⟩ : ∃ w1, w1 = w := ⟨_, rfl⟩
  rw [← hw1]
  have H1 := Aside0.mk (show PV hs B w0 w1 g gp gd n m ⟨ps, da, dl, pl, cmd, st⟩ by rw [hw1]; exact h)
  clear hw1 h
  by_cases h4 : pl < 4
  · rcases (show pl = 0 ∨ pl = 1 ∨ pl = 2 ∨ pl = 3 by omega) with rfl | rfl | rfl | rfl
    · clear h4
      go_enter Tryd.func67, Tryd.ntmps67
      have c12 := (show w1.cell? ⟨g, 12, none⟩ = some (.int .i64 0) from H1.out.c12)
      go_wp2_with fail
      clear c12
      refine start_ (n := 10) (S := (fun w' => w'.cell? ⟨g, 13, none⟩ = some (.int .i64 cmd))) (ds := [9]) #[false, false, false, false, false, false, false, false, false, false] (by kernel_rfl) rfl rfl H1.out.c13 (fun hHeld => ?_)
      refine with_tabW c2_tab c2_bits (fun HT_ HW_ => ?_)
      have H2d := Aside0.mk (show PV hs B w0 w1.drew g gp gd n m ⟨ps, da, dl, 0, cmd, st⟩ from H1.out.drew)
      clear H1
      generalize w1.drew = w2d at H2d hHeld ⊢
      refine pure_ (i := 0) (N := some 15) (v := ?_) (a' := ?_) (zF 10 1) rfl rfl (any_of HT_.out (by kernel_rfl)) (fun _ _ _ h => h) (Or.inl ⟨by rfl, ?_⟩) ?_ ?_
      rotate_left; (intro w'; go_simp; with_reducible rfl); rotate_left; (simp only [Act.put, zA, zZ, zS, i64_w, i32_w]; rfl)
      refine pure_ (i := 1) (N := some 16) (v := ?_) (a' := ?_) (zF 10 3) rfl rfl (any_of HT_.out (by kernel_rfl)) (fun _ _ _ h => h) (Or.inl ⟨by rfl, ?_⟩) ?_ ?_
      rotate_left; (intro w'; go_simp; with_reducible rfl); rotate_left; (simp only [Act.put, zA, zZ, zS, i64_w, i32_w]; rfl)
      refine pure_ (i := 2) (N := some 17) (v := ?_) (a' := ?_) (zF 10 7) rfl rfl (any_of HT_.out (by kernel_rfl)) (fun _ _ _ h => h) (Or.inl ⟨by rfl, ?_⟩) ?_ ?_
      rotate_left; (intro w'; go_simp; with_reducible rfl); rotate_left; (simp only [Act.put, zA, zZ, zS, i64_w, i32_w]; rfl)
      refine pure_ (i := 4) (N := some 19) (v := ?_) (a' := ?_) (zF 10 23) rfl rfl (any_of HT_.out (by kernel_rfl)) (fun _ _ _ h => h) (Or.inl ⟨by rfl, ?_⟩) ?_ ?_
      rotate_left; (intro w'; go_simp; with_reducible rfl); rotate_left; (simp only [Act.put, zA, zZ, zS, i64_w, i32_w]; rfl)
      refine pure_ (i := 5) (N := some 20) (v := ?_) (a' := ?_) (zF 10 55) rfl rfl (any_of HT_.out (by kernel_rfl)) (fun _ _ _ h => h) (Or.inl ⟨by rfl, ?_⟩) ?_ ?_
      rotate_left; (intro w'; go_simp; with_reducible rfl); rotate_left; (simp only [Act.put, zA, zZ, zS, i64_w, i32_w]; rfl)
      refine take_ (i := 3) (N := some 18) (v := ?_) (a' := ?_) (zF 10 63) rfl rfl (take_ofW HT_.out HW_.out (by kernel_rfl)) (fun _ _ _ h => h) (Or.inl ⟨by rfl, ?_⟩) hHeld ?_ ?_
      rotate_left; (rintro w' s0; go_simp; with_reducible rfl); rotate_left; (simp only [Act.put, zA, zZ, zS, i64_w, i32_w]; rfl)
      refine pure_ (i := 6) (N := some 21) (v := ?_) (a' := ?_) (zF 10 127) rfl rfl (any_of HT_.out (by kernel_rfl)) (fun _ _ _ h => h) (Or.inl ⟨by rfl, ?_⟩) ?_ ?_
      rotate_left; (intro w'; go_simp; with_reducible rfl); rotate_left; (simp only [Act.put, zA, zZ, zS, i64_w, i32_w]; rfl)
      refine pure_ (i := 7) (N := some 22) (v := ?_) (a' := ?_) (zF 10 255) rfl rfl (any_of HT_.out (by kernel_rfl)) (fun _ _ _ h => h) (Or.inl ⟨by rfl, ?_⟩) ?_ ?_
      rotate_left; (intro w'; go_simp; with_reducible rfl); rotate_left; (simp only [Act.put, zA, zZ, zS, i64_w, i32_w]; rfl)
      refine pure_ (i := 8) (N := some 23) (v := ?_) (a' := ?_) (zF 10 511) rfl rfl (any_of HT_.out (by kernel_rfl)) (fun _ _ _ h => h) (Or.inl ⟨by rfl, ?_⟩) ?_ ?_
      rotate_left; (intro w'; go_simp; with_reducible rfl); rotate_left; (simp only [Act.put, zA, zZ, zS, i64_w, i32_w]; rfl)
      refine last_ (i := 9) (N := none) (zF 10 1023) rfl rfl (one_of HT_.out (by kernel_rfl)) (by decide) (fun K hK => ?_)
      have q2d : w2d.cell? ⟨g, 13, none⟩ = some (.int .i64 cmd) := H2d.out.c13
      have qf2d := H2d.out.free 13
      refine skip_ (w1 := ?_) (by rfl) rfl ?_ ?_
      rotate_left
      · go_simp
        with_reducible rfl
      refine hK.out _ _ ?_
      clear hK K
      clear q2d qf2d
      refine done_ (done_of HT_.out (by kernel_rfl)) ?_
      clear hHeld
      have H2 := Aside0.mk (show PV hs B w0 (w2d.setCell ⟨g, 13, none⟩ (.int .i64 (Go.bits .andNot .i64 cmd (wrap64 255)))) g gp gd n m ⟨ps, da, dl, 0, Go.bits .andNot .i64 cmd (wrap64 255), st⟩ from H2d.out.set_cmd (Go.bits .andNot .i64 cmd (wrap64 255)))
      clear H2d
      generalize w2d.setCell ⟨g, 13, none⟩ (.int .i64 (Go.bits .andNot .i64 cmd (wrap64 255))) = w2 at H2 ⊢
      go_wp2_with fail
      refine start_ (n := 12) (S := (fun w' => w'.cell? ⟨g, 13, none⟩ = some (.int .i64 (Go.bits .andNot .i64 cmd (wrap64 255))))) (ds := [11]) #[false, false, false, false, false, false, false, false, false, false, false, false] (by kernel_rfl) rfl rfl H2.out.c13 (fun hHeld => ?_)
      refine with_tabW c3_tab c3_bits (fun HT_ HW_ => ?_)
      have H3d := Aside0.mk (show PV hs B w0 w2.drew g gp gd n m ⟨ps, da, dl, 0, Go.bits .andNot .i64 cmd (wrap64 255), st⟩ from H2.out.drew)
      clear H2
      generalize w2.drew = w3d at H3d hHeld ⊢
      refine pure_ (i := 0) (N := some 24) (v := ?_) (a' := ?_) (zF 12 1) rfl rfl (any_of HT_.out (by kernel_rfl)) (fun _ _ _ h => h) (Or.inl ⟨by rfl, ?_⟩) ?_ ?_
      rotate_left; (intro w'; go_simp; with_reducible rfl); rotate_left; (simp only [Act.put, zA, zZ, zS, i64_w, i32_w]; rfl)
      refine pure_ (i := 1) (N := some 25) (v := ?_) (a' := ?_) (zF 12 3) rfl rfl (any_of HT_.out (by kernel_rfl)) (fun _ _ _ h => h) (Or.inl ⟨by rfl, ?_⟩) ?_ ?_
      rotate_left; (intro w'; go_simp; with_reducible rfl); rotate_left; (simp only [Act.put, zA, zZ, zS, i64_w, i32_w]; rfl)
      refine pure_ (i := 2) (N := some 26) (v := ?_) (a' := ?_) (zF 12 7) rfl rfl (any_of HT_.out (by kernel_rfl)) (fun _ _ _ h => h) (Or.inl ⟨by rfl, ?_⟩) ?_ ?_
      rotate_left; (intro w'; go_simp; with_reducible rfl); rotate_left; (simp only [Act.put, zA, zZ, zS, i64_w, i32_w]; rfl)
      refine pure_ (i := 4) (N := some 28) (v := ?_) (a' := ?_) (zF 12 23) rfl rfl (any_of HT_.out (by kernel_rfl)) (fun _ _ _ h => h) (Or.inl ⟨by rfl, ?_⟩) ?_ ?_
      rotate_left; (intro w'; go_simp; with_reducible rfl); rotate_left; (simp only [Act.put, zA, zZ, zS, i64_w, i32_w]; rfl)
      refine pure_ (i := 5) (N := some 29) (v := ?_) (a' := ?_) (zF 12 55) rfl rfl (any_of HT_.out (by kernel_rfl)) (fun _ _ _ h => h) (Or.inl ⟨by rfl, ?_⟩) ?_ ?_
      rotate_left; (intro w'; go_simp; with_reducible rfl); rotate_left; (simp only [Act.put, zA, zZ, zS, i64_w, i32_w]; rfl)
      refine pure_ (i := 6) (N := some 30) (v := ?_) (a' := ?_) (zF 12 119) rfl rfl (any_of HT_.out (by kernel_rfl)) (fun _ _ _ h => h) (Or.inl ⟨by rfl, ?_⟩) ?_ ?_
      rotate_left; (intro w'; go_simp; with_reducible rfl); rotate_left; (simp only [Act.put, zA, zZ, zS, i64_w, i32_w]; rfl)
      refine pure_ (i := 7) (N := some 31) (v := ?_) (a' := ?_) (zF 12 247) rfl rfl (any_of HT_.out (by kernel_rfl)) (fun _ _ _ h => h) (Or.inl ⟨by rfl, ?_⟩) ?_ ?_
      rotate_left; (intro w'; go_simp; with_reducible rfl); rotate_left; (simp only [Act.put, zA, zZ, zS, i64_w, i32_w]; rfl)
      refine take_ (i := 3) (N := some 27) (v := ?_) (a' := ?_) (zF 12 255) rfl rfl (take_ofW HT_.out HW_.out (by kernel_rfl)) (fun _ _ _ h => h) (Or.inl ⟨by rfl, ?_⟩) hHeld ?_ ?_
      rotate_left; (rintro w' s0; go_simp; with_reducible rfl); rotate_left; (simp only [Act.put, zA, zZ, zS, i64_w, i32_w]; rfl)
      refine pure_ (i := 8) (N := some 32) (v := ?_) (a' := ?_) (zF 12 511) rfl rfl (any_of HT_.out (by kernel_rfl)) (fun _ _ _ h => h) (Or.inl ⟨by rfl, ?_⟩) ?_ ?_
      rotate_left; (intro w'; go_simp; with_reducible rfl); rotate_left; (simp only [Act.put, zA, zZ, zS, i64_w, i32_w]; rfl)
      refine pure_ (i := 9) (N := some 33) (v := ?_) (a' := ?_) (zF 12 1023) rfl rfl (any_of HT_.out (by kernel_rfl)) (fun _ _ _ h => h) (Or.inl ⟨by rfl, ?_⟩) ?_ ?_
      rotate_left; (intro w'; go_simp; with_reducible rfl); rotate_left; (simp only [Act.put, zA, zZ, zS, i64_w, i32_w]; rfl)
      refine pure_ (i := 10) (N := some 34) (v := ?_) (a' := ?_) (zF 12 2047) rfl rfl (any_of HT_.out (by kernel_rfl)) (fun _ _ _ h => h) (Or.inl ⟨by rfl, ?_⟩) ?_ ?_
      rotate_left; (intro w'; go_simp; with_reducible rfl); rotate_left; (simp only [Act.put, zA, zZ, zS, i64_w, i32_w]; rfl)
      refine last_ (i := 11) (N := none) (zF 12 4095) rfl rfl (one_of HT_.out (by kernel_rfl)) (by decide) (fun K hK => ?_)
      have q3d : w3d.cell? ⟨g, 13, none⟩ = some (.int .i64 (Go.bits .andNot .i64 cmd (wrap64 255))) := H3d.out.c13
      have qf3d := H3d.out.free 13
      refine skip_ (w1 := ?_) (by rfl) rfl ?_ ?_
      rotate_left
      · go_simp
        with_reducible rfl
      refine hK.out _ _ ?_
      clear hK K
      clear q3d qf3d
      refine done_ (done_of HT_.out (by kernel_rfl)) ?_
      clear hHeld
      have H3 := Aside0.mk (show PV hs B w0 (w3d.setCell ⟨g, 13, none⟩ (.int .i64 (Go.bits .or .i64 (Go.bits .andNot .i64 cmd (wrap64 255)) b))) g gp gd n m ⟨ps, da, dl, 0, Go.bits .or .i64 (Go.bits .andNot .i64 cmd (wrap64 255)) b, st⟩ from H3d.out.set_cmd (Go.bits .or .i64 (Go.bits .andNot .i64 cmd (wrap64 255)) b))
      clear H3d
      generalize w3d.setCell ⟨g, 13, none⟩ (.int .i64 (Go.bits .or .i64 (Go.bits .andNot .i64 cmd (wrap64 255)) b)) = w3 at H3 ⊢
      have c12 := (show w3.cell? ⟨g, 12, none⟩ = some (.int .i64 0) from H3.out.c12)
      have f12 := H3.out.free 12
      have H4 := Aside0.mk (H3.out.set_pl 1 1 rfl)
      go_wp2
      go_end0
      refine ⟨rfl, ?_⟩
      rw [show pcollect ⟨ps, da, dl, 0, cmd, st⟩ b = ⟨ps, da, dl, 1, Go.bits .or .i64 (Go.bits .andNot .i64 cmd (wrap64 255)) b, st⟩ from by unfold pcollect; rw [if_pos (by show (0 : Nat) < 4; decide)]; rfl]
      exact H4.out
    · clear h4
      go_enter Tryd.func67, Tryd.ntmps67
      have c12 := (show w1.cell? ⟨g, 12, none⟩ = some (.int .i64 1) from H1.out.c12)
      go_wp2_with fail
      clear c12
      refine start_ (n := 10) (S := (fun w' => w'.cell? ⟨g, 13, none⟩ = some (.int .i64 cmd))) (ds := [9]) #[false, false, false, false, false, false, false, false, false, false] (by kernel_rfl) rfl rfl H1.out.c13 (fun hHeld => ?_)
      refine with_tabW c2_tab c2_bits (fun HT_ HW_ => ?_)
      have H2d := Aside0.mk (show PV hs B w0 w1.drew g gp gd n m ⟨ps, da, dl, 1, cmd, st⟩ from H1.out.drew)
      clear H1
      generalize w1.drew = w2d at H2d hHeld ⊢
      refine pure_ (i := 0) (N := some 15) (v := ?_) (a' := ?_) (zF 10 1) rfl rfl (any_of HT_.out (by kernel_rfl)) (fun _ _ _ h => h) (Or.inl ⟨by rfl, ?_⟩) ?_ ?_
      rotate_left; (intro w'; go_simp; with_reducible rfl); rotate_left; (simp only [Act.put, zA, zZ, zS, i64_w, i32_w]; rfl)
      refine pure_ (i := 1) (N := some 16) (v := ?_) (a' := ?_) (zF 10 3) rfl rfl (any_of HT_.out (by kernel_rfl)) (fun _ _ _ h => h) (Or.inl ⟨by rfl, ?_⟩) ?_ ?_
      rotate_left; (intro w'; go_simp; with_reducible rfl); rotate_left; (simp only [Act.put, zA, zZ, zS, i64_w, i32_w]; rfl)
      refine pure_ (i := 2) (N := some 17) (v := ?_) (a' := ?_) (zF 10 7) rfl rfl (any_of HT_.out (by kernel_rfl)) (fun _ _ _ h => h) (Or.inl ⟨by rfl, ?_⟩) ?_ ?_
      rotate_left; (intro w'; go_simp; with_reducible rfl); rotate_left; (simp only [Act.put, zA, zZ, zS, i64_w, i32_w]; rfl)
      refine pure_ (i := 4) (N := some 19) (v := ?_) (a' := ?_) (zF 10 23) rfl rfl (any_of HT_.out (by kernel_rfl)) (fun _ _ _ h => h) (Or.inl ⟨by rfl, ?_⟩) ?_ ?_
      rotate_left; (intro w'; go_simp; with_reducible rfl); rotate_left; (simp only [Act.put, zA, zZ, zS, i64_w, i32_w]; rfl)
      refine pure_ (i := 5) (N := some 20) (v := ?_) (a' := ?_) (zF 10 55) rfl rfl (any_of HT_.out (by kernel_rfl)) (fun _ _ _ h => h) (Or.inl ⟨by rfl, ?_⟩) ?_ ?_
      rotate_left; (intro w'; go_simp; with_reducible rfl); rotate_left; (simp only [Act.put, zA, zZ, zS, i64_w, i32_w]; rfl)
      refine take_ (i := 3) (N := some 18) (v := ?_) (a' := ?_) (zF 10 63) rfl rfl (take_ofW HT_.out HW_.out (by kernel_rfl)) (fun _ _ _ h => h) (Or.inl ⟨by rfl, ?_⟩) hHeld ?_ ?_
      rotate_left; (rintro w' s0; go_simp; with_reducible rfl); rotate_left; (simp only [Act.put, zA, zZ, zS, i64_w, i32_w]; rfl)
      refine pure_ (i := 6) (N := some 21) (v := ?_) (a' := ?_) (zF 10 127) rfl rfl (any_of HT_.out (by kernel_rfl)) (fun _ _ _ h => h) (Or.inl ⟨by rfl, ?_⟩) ?_ ?_
      rotate_left; (intro w'; go_simp; with_reducible rfl); rotate_left; (simp only [Act.put, zA, zZ, zS, i64_w, i32_w]; rfl)
      refine pure_ (i := 7) (N := some 22) (v := ?_) (a' := ?_) (zF 10 255) rfl rfl (any_of HT_.out (by kernel_rfl)) (fun _ _ _ h => h) (Or.inl ⟨by rfl, ?_⟩) ?_ ?_
      rotate_left; (intro w'; go_simp; with_reducible rfl); rotate_left; (simp only [Act.put, zA, zZ, zS, i64_w, i32_w]; rfl)
      refine pure_ (i := 8) (N := some 23) (v := ?_) (a' := ?_) (zF 10 511) rfl rfl (any_of HT_.out (by kernel_rfl)) (fun _ _ _ h => h) (Or.inl ⟨by rfl, ?_⟩) ?_ ?_
      rotate_left; (intro w'; go_simp; with_reducible rfl); rotate_left; (simp only [Act.put, zA, zZ, zS, i64_w, i32_w]; rfl)
      refine last_ (i := 9) (N := none) (zF 10 1023) rfl rfl (one_of HT_.out (by kernel_rfl)) (by decide) (fun K hK => ?_)
      have q2d : w2d.cell? ⟨g, 13, none⟩ = some (.int .i64 cmd) := H2d.out.c13
      have qf2d := H2d.out.free 13
      refine skip_ (w1 := ?_) (by rfl) rfl ?_ ?_
      rotate_left
      · go_simp
        with_reducible rfl
      refine hK.out _ _ ?_
      clear hK K
      clear q2d qf2d
      refine done_ (done_of HT_.out (by kernel_rfl)) ?_
      clear hHeld
      have H2 := Aside0.mk (show PV hs B w0 (w2d.setCell ⟨g, 13, none⟩ (.int .i64 (Go.bits .andNot .i64 cmd (wrap64 65280)))) g gp gd n m ⟨ps, da, dl, 1, Go.bits .andNot .i64 cmd (wrap64 65280), st⟩ from H2d.out.set_cmd (Go.bits .andNot .i64 cmd (wrap64 65280)))
      clear H2d
      generalize w2d.setCell ⟨g, 13, none⟩ (.int .i64 (Go.bits .andNot .i64 cmd (wrap64 65280))) = w2 at H2 ⊢
      go_wp2_with fail
      refine start_ (n := 12) (S := (fun w' => w'.cell? ⟨g, 13, none⟩ = some (.int .i64 (Go.bits .andNot .i64 cmd (wrap64 65280))))) (ds := [11]) #[false, false, false, false, false, false, false, false, false, false, false, false] (by kernel_rfl) rfl rfl H2.out.c13 (fun hHeld => ?_)
      refine with_tabW c3_tab c3_bits (fun HT_ HW_ => ?_)
      have H3d := Aside0.mk (show PV hs B w0 w2.drew g gp gd n m ⟨ps, da, dl, 1, Go.bits .andNot .i64 cmd (wrap64 65280), st⟩ from H2.out.drew)
      clear H2
      generalize w2.drew = w3d at H3d hHeld ⊢
      refine pure_ (i := 0) (N := some 24) (v := ?_) (a' := ?_) (zF 12 1) rfl rfl (any_of HT_.out (by kernel_rfl)) (fun _ _ _ h => h) (Or.inl ⟨by rfl, ?_⟩) ?_ ?_
      rotate_left; (intro w'; go_simp; with_reducible rfl); rotate_left; (simp only [Act.put, zA, zZ, zS, i64_w, i32_w]; rfl)
      refine pure_ (i := 1) (N := some 25) (v := ?_) (a' := ?_) (zF 12 3) rfl rfl (any_of HT_.out (by kernel_rfl)) (fun _ _ _ h => h) (Or.inl ⟨by rfl, ?_⟩) ?_ ?_
      rotate_left; (intro w'; go_simp; with_reducible rfl); rotate_left; (simp only [Act.put, zA, zZ, zS, i64_w, i32_w]; rfl)
      refine pure_ (i := 2) (N := some 26) (v := ?_) (a' := ?_) (zF 12 7) rfl rfl (any_of HT_.out (by kernel_rfl)) (fun _ _ _ h => h) (Or.inl ⟨by rfl, ?_⟩) ?_ ?_
      rotate_left; (intro w'; go_simp; with_reducible rfl); rotate_left; (simp only [Act.put, zA, zZ, zS, i64_w, i32_w]; rfl)
      refine pure_ (i := 4) (N := some 28) (v := ?_) (a' := ?_) (zF 12 23) rfl rfl (any_of HT_.out (by kernel_rfl)) (fun _ _ _ h => h) (Or.inl ⟨by rfl, ?_⟩) ?_ ?_
      rotate_left; (intro w'; go_simp; with_reducible rfl); rotate_left; (simp only [Act.put, zA, zZ, zS, i64_w, i32_w]; rfl)
      refine pure_ (i := 5) (N := some 29) (v := ?_) (a' := ?_) (zF 12 55) rfl rfl (any_of HT_.out (by kernel_rfl)) (fun _ _ _ h => h) (Or.inl ⟨by rfl, ?_⟩) ?_ ?_
      rotate_left; (intro w'; go_simp; with_reducible rfl); rotate_left; (simp only [Act.put, zA, zZ, zS, i64_w, i32_w]; rfl)
      refine pure_ (i := 6) (N := some 30) (v := ?_) (a' := ?_) (zF 12 119) rfl rfl (any_of HT_.out (by kernel_rfl)) (fun _ _ _ h => h) (Or.inl ⟨by rfl, ?_⟩) ?_ ?_
      rotate_left; (intro w'; go_simp; with_reducible rfl); rotate_left; (simp only [Act.put, zA, zZ, zS, i64_w, i32_w]; rfl)
      refine pure_ (i := 7) (N := some 31) (v := ?_) (a' := ?_) (zF 12 247) rfl rfl (any_of HT_.out (by kernel_rfl)) (fun _ _ _ h => h) (Or.inl ⟨by rfl, ?_⟩) ?_ ?_
      rotate_left; (intro w'; go_simp; with_reducible rfl); rotate_left; (simp only [Act.put, zA, zZ, zS, i64_w, i32_w]; rfl)
      refine take_ (i := 3) (N := some 27) (v := ?_) (a' := ?_) (zF 12 255) rfl rfl (take_ofW HT_.out HW_.out (by kernel_rfl)) (fun _ _ _ h => h) (Or.inl ⟨by rfl, ?_⟩) hHeld ?_ ?_
      rotate_left; (rintro w' s0; go_simp; with_reducible rfl); rotate_left; (simp only [Act.put, zA, zZ, zS, i64_w, i32_w]; rfl)
      refine pure_ (i := 8) (N := some 32) (v := ?_) (a' := ?_) (zF 12 511) rfl rfl (any_of HT_.out (by kernel_rfl)) (fun _ _ _ h => h) (Or.inl ⟨by rfl, ?_⟩) ?_ ?_
      rotate_left; (intro w'; go_simp; with_reducible rfl); rotate_left; (simp only [Act.put, zA, zZ, zS, i64_w, i32_w]; rfl)
      refine pure_ (i := 9) (N := some 33) (v := ?_) (a' := ?_) (zF 12 1023) rfl rfl (any_of HT_.out (by kernel_rfl)) (fun _ _ _ h => h) (Or.inl ⟨by rfl, ?_⟩) ?_ ?_
      rotate_left; (intro w'; go_simp; with_reducible rfl); rotate_left; (simp only [Act.put, zA, zZ, zS, i64_w, i32_w]; rfl)
      refine pure_ (i := 10) (N := some 34) (v := ?_) (a' := ?_) (zF 12 2047) rfl rfl (any_of HT_.out (by kernel_rfl)) (fun _ _ _ h => h) (Or.inl ⟨by rfl, ?_⟩) ?_ ?_
      rotate_left; (intro w'; go_simp; with_reducible rfl); rotate_left; (simp only [Act.put, zA, zZ, zS, i64_w, i32_w]; rfl)
      refine last_ (i := 11) (N := none) (zF 12 4095) rfl rfl (one_of HT_.out (by kernel_rfl)) (by decide) (fun K hK => ?_)
      have q3d : w3d.cell? ⟨g, 13, none⟩ = some (.int .i64 (Go.bits .andNot .i64 cmd (wrap64 65280))) := H3d.out.c13
      have qf3d := H3d.out.free 13
      refine skip_ (w1 := ?_) (by rfl) rfl ?_ ?_
      rotate_left
      · go_simp
        with_reducible rfl
      refine hK.out _ _ ?_
      clear hK K
      clear q3d qf3d
      refine done_ (done_of HT_.out (by kernel_rfl)) ?_
      clear hHeld
      have H3 := Aside0.mk (show PV hs B w0 (w3d.setCell ⟨g, 13, none⟩ (.int .i64 (Go.bits .or .i64 (Go.bits .andNot .i64 cmd (wrap64 65280)) (wrap64 (b * 256))))) g gp gd n m ⟨ps, da, dl, 1, Go.bits .or .i64 (Go.bits .andNot .i64 cmd (wrap64 65280)) (wrap64 (b * 256)), st⟩ from H3d.out.set_cmd (Go.bits .or .i64 (Go.bits .andNot .i64 cmd (wrap64 65280)) (wrap64 (b * 256))))
      clear H3d
      generalize w3d.setCell ⟨g, 13, none⟩ (.int .i64 (Go.bits .or .i64 (Go.bits .andNot .i64 cmd (wrap64 65280)) (wrap64 (b * 256)))) = w3 at H3 ⊢
      have c12 := (show w3.cell? ⟨g, 12, none⟩ = some (.int .i64 1) from H3.out.c12)
      have f12 := H3.out.free 12
      have H4 := Aside0.mk (H3.out.set_pl 2 2 rfl)
      go_wp2
      go_end0
      refine ⟨rfl, ?_⟩
      rw [show pcollect ⟨ps, da, dl, 1, cmd, st⟩ b = ⟨ps, da, dl, 2, Go.bits .or .i64 (Go.bits .andNot .i64 cmd (wrap64 65280)) (wrap64 (b * 256)), st⟩ from by unfold pcollect; rw [if_pos (by show (1 : Nat) < 4; decide)]; rfl]
      exact H4.out
    · clear h4
      go_enter Tryd.func67, Tryd.ntmps67
      have c12 := (show w1.cell? ⟨g, 12, none⟩ = some (.int .i64 2) from H1.out.c12)
      go_wp2_with fail
      clear c12
      refine start_ (n := 10) (S := (fun w' => w'.cell? ⟨g, 13, none⟩ = some (.int .i64 cmd))) (ds := [9]) #[false, false, false, false, false, false, false, false, false, false] (by kernel_rfl) rfl rfl H1.out.c13 (fun hHeld => ?_)
      refine with_tabW c2_tab c2_bits (fun HT_ HW_ => ?_)
      have H2d := Aside0.mk (show PV hs B w0 w1.drew g gp gd n m ⟨ps, da, dl, 2, cmd, st⟩ from H1.out.drew)
      clear H1
      generalize w1.drew = w2d at H2d hHeld ⊢
      refine pure_ (i := 0) (N := some 15) (v := ?_) (a' := ?_) (zF 10 1) rfl rfl (any_of HT_.out (by kernel_rfl)) (fun _ _ _ h => h) (Or.inl ⟨by rfl, ?_⟩) ?_ ?_
      rotate_left; (intro w'; go_simp; with_reducible rfl); rotate_left; (simp only [Act.put, zA, zZ, zS, i64_w, i32_w]; rfl)
      refine pure_ (i := 1) (N := some 16) (v := ?_) (a' := ?_) (zF 10 3) rfl rfl (any_of HT_.out (by kernel_rfl)) (fun _ _ _ h => h) (Or.inl ⟨by rfl, ?_⟩) ?_ ?_
      rotate_left; (intro w'; go_simp; with_reducible rfl); rotate_left; (simp only [Act.put, zA, zZ, zS, i64_w, i32_w]; rfl)
      refine pure_ (i := 2) (N := some 17) (v := ?_) (a' := ?_) (zF 10 7) rfl rfl (any_of HT_.out (by kernel_rfl)) (fun _ _ _ h => h) (Or.inl ⟨by rfl, ?_⟩) ?_ ?_
      rotate_left; (intro w'; go_simp; with_reducible rfl); rotate_left; (simp only [Act.put, zA, zZ, zS, i64_w, i32_w]; rfl)
      refine pure_ (i := 4) (N := some 19) (v := ?_) (a' := ?_) (zF 10 23) rfl rfl (any_of HT_.out (by kernel_rfl)) (fun _ _ _ h => h) (Or.inl ⟨by rfl, ?_⟩) ?_ ?_
      rotate_left; (intro w'; go_simp; with_reducible rfl); rotate_left; (simp only [Act.put, zA, zZ, zS, i64_w, i32_w]; rfl)
      refine pure_ (i := 5) (N := some 20) (v := ?_) (a' := ?_) (zF 10 55) rfl rfl (any_of HT_.out (by kernel_rfl)) (fun _ _ _ h => h) (Or.inl ⟨by rfl, ?_⟩) ?_ ?_
      rotate_left; (intro w'; go_simp; with_reducible rfl); rotate_left; (simp only [Act.put, zA, zZ, zS, i64_w, i32_w]; rfl)
      refine take_ (i := 3) (N := some 18) (v := ?_) (a' := ?_) (zF 10 63) rfl rfl (take_ofW HT_.out HW_.out (by kernel_rfl)) (fun _ _ _ h => h) (Or.inl ⟨by rfl, ?_⟩) hHeld ?_ ?_
      rotate_left; (rintro w' s0; go_simp; with_reducible rfl); rotate_left; (simp only [Act.put, zA, zZ, zS, i64_w, i32_w]; rfl)
      refine pure_ (i := 6) (N := some 21) (v := ?_) (a' := ?_) (zF 10 127) rfl rfl (any_of HT_.out (by kernel_rfl)) (fun _ _ _ h => h) (Or.inl ⟨by rfl, ?_⟩) ?_ ?_
      rotate_left; (intro w'; go_simp; with_reducible rfl); rotate_left; (simp only [Act.put, zA, zZ, zS, i64_w, i32_w]; rfl)
      refine pure_ (i := 7) (N := some 22) (v := ?_) (a' := ?_) (zF 10 255) rfl rfl (any_of HT_.out (by kernel_rfl)) (fun _ _ _ h => h) (Or.inl ⟨by rfl, ?_⟩) ?_ ?_
      rotate_left; (intro w'; go_simp; with_reducible rfl); rotate_left; (simp only [Act.put, zA, zZ, zS, i64_w, i32_w]; rfl)
      refine pure_ (i := 8) (N := some 23) (v := ?_) (a' := ?_) (zF 10 511) rfl rfl (any_of HT_.out (by kernel_rfl)) (fun _ _ _ h => h) (Or.inl ⟨by rfl, ?_⟩) ?_ ?_
      rotate_left; (intro w'; go_simp; with_reducible rfl); rotate_left; (simp only [Act.put, zA, zZ, zS, i64_w, i32_w]; rfl)
      refine last_ (i := 9) (N := none) (zF 10 1023) rfl rfl (one_of HT_.out (by kernel_rfl)) (by decide) (fun K hK => ?_)
      have q2d : w2d.cell? ⟨g, 13, none⟩ = some (.int .i64 cmd) := H2d.out.c13
      have qf2d := H2d.out.free 13
      refine skip_ (w1 := ?_) (by rfl) rfl ?_ ?_
      rotate_left
      · go_simp
        with_reducible rfl
      refine hK.out _ _ ?_
      clear hK K
      clear q2d qf2d
      refine done_ (done_of HT_.out (by kernel_rfl)) ?_
      clear hHeld
      have H2 := Aside0.mk (show PV hs B w0 (w2d.setCell ⟨g, 13, none⟩ (.int .i64 (Go.bits .andNot .i64 cmd (wrap64 16711680)))) g gp gd n m ⟨ps, da, dl, 2, Go.bits .andNot .i64 cmd (wrap64 16711680), st⟩ from H2d.out.set_cmd (Go.bits .andNot .i64 cmd (wrap64 16711680)))
      clear H2d
      generalize w2d.setCell ⟨g, 13, none⟩ (.int .i64 (Go.bits .andNot .i64 cmd (wrap64 16711680))) = w2 at H2 ⊢
      go_wp2_with fail
      refine start_ (n := 12) (S := (fun w' => w'.cell? ⟨g, 13, none⟩ = some (.int .i64 (Go.bits .andNot .i64 cmd (wrap64 16711680))))) (ds := [11]) #[false, false, false, false, false, false, false, false, false, false, false, false] (by kernel_rfl) rfl rfl H2.out.c13 (fun hHeld => ?_)
      refine with_tabW c3_tab c3_bits (fun HT_ HW_ => ?_)
      have H3d := Aside0.mk (show PV hs B w0 w2.drew g gp gd n m ⟨ps, da, dl, 2, Go.bits .andNot .i64 cmd (wrap64 16711680), st⟩ from H2.out.drew)
      clear H2
      generalize w2.drew = w3d at H3d hHeld ⊢
      refine pure_ (i := 0) (N := some 24) (v := ?_) (a' := ?_) (zF 12 1) rfl rfl (any_of HT_.out (by kernel_rfl)) (fun _ _ _ h => h) (Or.inl ⟨by rfl, ?_⟩) ?_ ?_
      rotate_left; (intro w'; go_simp; with_reducible rfl); rotate_left; (simp only [Act.put, zA, zZ, zS, i64_w, i32_w]; rfl)
      refine pure_ (i := 1) (N := some 25) (v := ?_) (a' := ?_) (zF 12 3) rfl rfl (any_of HT_.out (by kernel_rfl)) (fun _ _ _ h => h) (Or.inl ⟨by rfl, ?_⟩) ?_ ?_
      rotate_left; (intro w'; go_simp; with_reducible rfl); rotate_left; (simp only [Act.put, zA, zZ, zS, i64_w, i32_w]; rfl)
      refine pure_ (i := 2) (N := some 26) (v := ?_) (a' := ?_) (zF 12 7) rfl rfl (any_of HT_.out (by kernel_rfl)) (fun _ _ _ h => h) (Or.inl ⟨by rfl, ?_⟩) ?_ ?_
      rotate_left; (intro w'; go_simp; with_reducible rfl); rotate_left; (simp only [Act.put, zA, zZ, zS, i64_w, i32_w]; rfl)
      refine pure_ (i := 4) (N := some 28) (v := ?_) (a' := ?_) (zF 12 23) rfl rfl (any_of HT_.out (by kernel_rfl)) (fun _ _ _ h => h) (Or.inl ⟨by rfl, ?_⟩) ?_ ?_
      rotate_left; (intro w'; go_simp; with_reducible rfl); rotate_left; (simp only [Act.put, zA, zZ, zS, i64_w, i32_w]; rfl)
      refine pure_ (i := 5) (N := some 29) (v := ?_) (a' := ?_) (zF 12 55) rfl rfl (any_of HT_.out (by kernel_rfl)) (fun _ _ _ h => h) (Or.inl ⟨by rfl, ?_⟩) ?_ ?_
      rotate_left; (intro w'; go_simp; with_reducible rfl); rotate_left; (simp only [Act.put, zA, zZ, zS, i64_w, i32_w]; rfl)
      refine pure_ (i := 6) (N := some 30) (v := ?_) (a' := ?_) (zF 12 119) rfl rfl (any_of HT_.out (by kernel_rfl)) (fun _ _ _ h => h) (Or.inl ⟨by rfl, ?_⟩) ?_ ?_
      rotate_left; (intro w'; go_simp; with_reducible rfl); rotate_left; (simp only [Act.put, zA, zZ, zS, i64_w, i32_w]; rfl)
      refine pure_ (i := 7) (N := some 31) (v := ?_) (a' := ?_) (zF 12 247) rfl rfl (any_of HT_.out (by kernel_rfl)) (fun _ _ _ h => h) (Or.inl ⟨by rfl, ?_⟩) ?_ ?_
      rotate_left; (intro w'; go_simp; with_reducible rfl); rotate_left; (simp only [Act.put, zA, zZ, zS, i64_w, i32_w]; rfl)
      refine take_ (i := 3) (N := some 27) (v := ?_) (a' := ?_) (zF 12 255) rfl rfl (take_ofW HT_.out HW_.out (by kernel_rfl)) (fun _ _ _ h => h) (Or.inl ⟨by rfl, ?_⟩) hHeld ?_ ?_
      rotate_left; (rintro w' s0; go_simp; with_reducible rfl); rotate_left; (simp only [Act.put, zA, zZ, zS, i64_w, i32_w]; rfl)
      refine pure_ (i := 8) (N := some 32) (v := ?_) (a' := ?_) (zF 12 511) rfl rfl (any_of HT_.out (by kernel_rfl)) (fun _ _ _ h => h) (Or.inl ⟨by rfl, ?_⟩) ?_ ?_
      rotate_left; (intro w'; go_simp; with_reducible rfl); rotate_left; (simp only [Act.put, zA, zZ, zS, i64_w, i32_w]; rfl)
      refine pure_ (i := 9) (N := some 33) (v := ?_) (a' := ?_) (zF 12 1023) rfl rfl (any_of HT_.out (by kernel_rfl)) (fun _ _ _ h => h) (Or.inl ⟨by rfl, ?_⟩) ?_ ?_
      rotate_left; (intro w'; go_simp; with_reducible rfl); rotate_left; (simp only [Act.put, zA, zZ, zS, i64_w, i32_w]; rfl)
      refine pure_ (i := 10) (N := some 34) (v := ?_) (a' := ?_) (zF 12 2047) rfl rfl (any_of HT_.out (by kernel_rfl)) (fun _ _ _ h => h) (Or.inl ⟨by rfl, ?_⟩) ?_ ?_
      rotate_left; (intro w'; go_simp; with_reducible rfl); rotate_left; (simp only [Act.put, zA, zZ, zS, i64_w, i32_w]; rfl)
      refine last_ (i := 11) (N := none) (zF 12 4095) rfl rfl (one_of HT_.out (by kernel_rfl)) (by decide) (fun K hK => ?_)
      have q3d : w3d.cell? ⟨g, 13, none⟩ = some (.int .i64 (Go.bits .andNot .i64 cmd (wrap64 16711680))) := H3d.out.c13
      have qf3d := H3d.out.free 13
      refine skip_ (w1 := ?_) (by rfl) rfl ?_ ?_
      rotate_left
      · go_simp
        with_reducible rfl
      refine hK.out _ _ ?_
      clear hK K
      clear q3d qf3d
      refine done_ (done_of HT_.out (by kernel_rfl)) ?_
      clear hHeld
      have H3 := Aside0.mk (show PV hs B w0 (w3d.setCell ⟨g, 13, none⟩ (.int .i64 (Go.bits .or .i64 (Go.bits .andNot .i64 cmd (wrap64 16711680)) (wrap64 (b * 65536))))) g gp gd n m ⟨ps, da, dl, 2, Go.bits .or .i64 (Go.bits .andNot .i64 cmd (wrap64 16711680)) (wrap64 (b * 65536)), st⟩ from H3d.out.set_cmd (Go.bits .or .i64 (Go.bits .andNot .i64 cmd (wrap64 16711680)) (wrap64 (b * 65536))))
      clear H3d
      generalize w3d.setCell ⟨g, 13, none⟩ (.int .i64 (Go.bits .or .i64 (Go.bits .andNot .i64 cmd (wrap64 16711680)) (wrap64 (b * 65536)))) = w3 at H3 ⊢
      have c12 := (show w3.cell? ⟨g, 12, none⟩ = some (.int .i64 2) from H3.out.c12)
      have f12 := H3.out.free 12
      have H4 := Aside0.mk (H3.out.set_pl 3 3 rfl)
      go_wp2
      go_end0
      refine ⟨rfl, ?_⟩
      rw [show pcollect ⟨ps, da, dl, 2, cmd, st⟩ b = ⟨ps, da, dl, 3, Go.bits .or .i64 (Go.bits .andNot .i64 cmd (wrap64 16711680)) (wrap64 (b * 65536)), st⟩ from by unfold pcollect; rw [if_pos (by show (2 : Nat) < 4; decide)]; rfl]
      exact H4.out
    · clear h4
      go_enter Tryd.func67, Tryd.ntmps67
      have c12 := (show w1.cell? ⟨g, 12, none⟩ = some (.int .i64 3) from H1.out.c12)
      go_wp2_with fail
      clear c12
      refine start_ (n := 10) (S := (fun w' => w'.cell? ⟨g, 13, none⟩ = some (.int .i64 cmd))) (ds := [9]) #[false, false, false, false, false, false, false, false, false, false] (by kernel_rfl) rfl rfl H1.out.c13 (fun hHeld => ?_)
      refine with_tabW c2_tab c2_bits (fun HT_ HW_ => ?_)
      have H2d := Aside0.mk (show PV hs B w0 w1.drew g gp gd n m ⟨ps, da, dl, 3, cmd, st⟩ from H1.out.drew)
      clear H1
      generalize w1.drew = w2d at H2d hHeld ⊢
      refine pure_ (i := 0) (N := some 15) (v := ?_) (a' := ?_) (zF 10 1) rfl rfl (any_of HT_.out (by kernel_rfl)) (fun _ _ _ h => h) (Or.inl ⟨by rfl, ?_⟩) ?_ ?_
      rotate_left; (intro w'; go_simp; with_reducible rfl); rotate_left; (simp only [Act.put, zA, zZ, zS, i64_w, i32_w]; rfl)
      refine pure_ (i := 1) (N := some 16) (v := ?_) (a' := ?_) (zF 10 3) rfl rfl (any_of HT_.out (by kernel_rfl)) (fun _ _ _ h => h) (Or.inl ⟨by rfl, ?_⟩) ?_ ?_
      rotate_left; (intro w'; go_simp; with_reducible rfl); rotate_left; (simp only [Act.put, zA, zZ, zS, i64_w, i32_w]; rfl)
      refine pure_ (i := 2) (N := some 17) (v := ?_) (a' := ?_) (zF 10 7) rfl rfl (any_of HT_.out (by kernel_rfl)) (fun _ _ _ h => h) (Or.inl ⟨by rfl, ?_⟩) ?_ ?_
      rotate_left; (intro w'; go_simp; with_reducible rfl); rotate_left; (simp only [Act.put, zA, zZ, zS, i64_w, i32_w]; rfl)
      refine pure_ (i := 4) (N := some 19) (v := ?_) (a' := ?_) (zF 10 23) rfl rfl (any_of HT_.out (by kernel_rfl)) (fun _ _ _ h => h) (Or.inl ⟨by rfl, ?_⟩) ?_ ?_
      rotate_left; (intro w'; go_simp; with_reducible rfl); rotate_left; (simp only [Act.put, zA, zZ, zS, i64_w, i32_w]; rfl)
      refine pure_ (i := 5) (N := some 20) (v := ?_) (a' := ?_) (zF 10 55) rfl rfl (any_of HT_.out (by kernel_rfl)) (fun _ _ _ h => h) (Or.inl ⟨by rfl, ?_⟩) ?_ ?_
      rotate_left; (intro w'; go_simp; with_reducible rfl); rotate_left; (simp only [Act.put, zA, zZ, zS, i64_w, i32_w]; rfl)
      refine take_ (i := 3) (N := some 18) (v := ?_) (a' := ?_) (zF 10 63) rfl rfl (take_ofW HT_.out HW_.out (by kernel_rfl)) (fun _ _ _ h => h) (Or.inl ⟨by rfl, ?_⟩) hHeld ?_ ?_
      rotate_left; (rintro w' s0; go_simp; with_reducible rfl); rotate_left; (simp only [Act.put, zA, zZ, zS, i64_w, i32_w]; rfl)
      refine pure_ (i := 6) (N := some 21) (v := ?_) (a' := ?_) (zF 10 127) rfl rfl (any_of HT_.out (by kernel_rfl)) (fun _ _ _ h => h) (Or.inl ⟨by rfl, ?_⟩) ?_ ?_
      rotate_left; (intro w'; go_simp; with_reducible rfl); rotate_left; (simp only [Act.put, zA, zZ, zS, i64_w, i32_w]; rfl)
      refine pure_ (i := 7) (N := some 22) (v := ?_) (a' := ?_) (zF 10 255) rfl rfl (any_of HT_.out (by kernel_rfl)) (fun _ _ _ h => h) (Or.inl ⟨by rfl, ?_⟩) ?_ ?_
      rotate_left; (intro w'; go_simp; with_reducible rfl); rotate_left; (simp only [Act.put, zA, zZ, zS, i64_w, i32_w]; rfl)
      refine pure_ (i := 8) (N := some 23) (v := ?_) (a' := ?_) (zF 10 511) rfl rfl (any_of HT_.out (by kernel_rfl)) (fun _ _ _ h => h) (Or.inl ⟨by rfl, ?_⟩) ?_ ?_
      rotate_left; (intro w'; go_simp; with_reducible rfl); rotate_left; (simp only [Act.put, zA, zZ, zS, i64_w, i32_w]; rfl)
      refine last_ (i := 9) (N := none) (zF 10 1023) rfl rfl (one_of HT_.out (by kernel_rfl)) (by decide) (fun K hK => ?_)
      have q2d : w2d.cell? ⟨g, 13, none⟩ = some (.int .i64 cmd) := H2d.out.c13
      have qf2d := H2d.out.free 13
      refine skip_ (w1 := ?_) (by rfl) rfl ?_ ?_
      rotate_left
      · go_simp
        with_reducible rfl
      refine hK.out _ _ ?_
      clear hK K
      clear q2d qf2d
      refine done_ (done_of HT_.out (by kernel_rfl)) ?_
      clear hHeld
      have H2 := Aside0.mk (show PV hs B w0 (w2d.setCell ⟨g, 13, none⟩ (.int .i64 (Go.bits .andNot .i64 cmd (wrap64 4278190080)))) g gp gd n m ⟨ps, da, dl, 3, Go.bits .andNot .i64 cmd (wrap64 4278190080), st⟩ from H2d.out.set_cmd (Go.bits .andNot .i64 cmd (wrap64 4278190080)))
      clear H2d
      generalize w2d.setCell ⟨g, 13, none⟩ (.int .i64 (Go.bits .andNot .i64 cmd (wrap64 4278190080))) = w2 at H2 ⊢
      go_wp2_with fail
      refine start_ (n := 12) (S := (fun w' => w'.cell? ⟨g, 13, none⟩ = some (.int .i64 (Go.bits .andNot .i64 cmd (wrap64 4278190080))))) (ds := [11]) #[false, false, false, false, false, false, false, false, false, false, false, false] (by kernel_rfl) rfl rfl H2.out.c13 (fun hHeld => ?_)
      refine with_tabW c3_tab c3_bits (fun HT_ HW_ => ?_)
      have H3d := Aside0.mk (show PV hs B w0 w2.drew g gp gd n m ⟨ps, da, dl, 3, Go.bits .andNot .i64 cmd (wrap64 4278190080), st⟩ from H2.out.drew)
      clear H2
      generalize w2.drew = w3d at H3d hHeld ⊢
      refine pure_ (i := 0) (N := some 24) (v := ?_) (a' := ?_) (zF 12 1) rfl rfl (any_of HT_.out (by kernel_rfl)) (fun _ _ _ h => h) (Or.inl ⟨by rfl, ?_⟩) ?_ ?_
      rotate_left; (intro w'; go_simp; with_reducible rfl); rotate_left; (simp only [Act.put, zA, zZ, zS, i64_w, i32_w]; rfl)
      refine pure_ (i := 1) (N := some 25) (v := ?_) (a' := ?_) (zF 12 3) rfl rfl (any_of HT_.out (by kernel_rfl)) (fun _ _ _ h => h) (Or.inl ⟨by rfl, ?_⟩) ?_ ?_
      rotate_left; (intro w'; go_simp; with_reducible rfl); rotate_left; (simp only [Act.put, zA, zZ, zS, i64_w, i32_w]; rfl)
      refine pure_ (i := 2) (N := some 26) (v := ?_) (a' := ?_) (zF 12 7) rfl rfl (any_of HT_.out (by kernel_rfl)) (fun _ _ _ h => h) (Or.inl ⟨by rfl, ?_⟩) ?_ ?_
      rotate_left; (intro w'; go_simp; with_reducible rfl); rotate_left; (simp only [Act.put, zA, zZ, zS, i64_w, i32_w]; rfl)
      refine pure_ (i := 4) (N := some 28) (v := ?_) (a' := ?_) (zF 12 23) rfl rfl (any_of HT_.out (by kernel_rfl)) (fun _ _ _ h => h) (Or.inl ⟨by rfl, ?_⟩) ?_ ?_
      rotate_left; (intro w'; go_simp; with_reducible rfl); rotate_left; (simp only [Act.put, zA, zZ, zS, i64_w, i32_w]; rfl)
      refine pure_ (i := 5) (N := some 29) (v := ?_) (a' := ?_) (zF 12 55) rfl rfl (any_of HT_.out (by kernel_rfl)) (fun _ _ _ h => h) (Or.inl ⟨by rfl, ?_⟩) ?_ ?_
      rotate_left; (intro w'; go_simp; with_reducible rfl); rotate_left; (simp only [Act.put, zA, zZ, zS, i64_w, i32_w]; rfl)
      refine pure_ (i := 6) (N := some 30) (v := ?_) (a' := ?_) (zF 12 119) rfl rfl (any_of HT_.out (by kernel_rfl)) (fun _ _ _ h => h) (Or.inl ⟨by rfl, ?_⟩) ?_ ?_
      rotate_left; (intro w'; go_simp; with_reducible rfl); rotate_left; (simp only [Act.put, zA, zZ, zS, i64_w, i32_w]; rfl)
      refine pure_ (i := 7) (N := some 31) (v := ?_) (a' := ?_) (zF 12 247) rfl rfl (any_of HT_.out (by kernel_rfl)) (fun _ _ _ h => h) (Or.inl ⟨by rfl, ?_⟩) ?_ ?_
      rotate_left; (intro w'; go_simp; with_reducible rfl); rotate_left; (simp only [Act.put, zA, zZ, zS, i64_w, i32_w]; rfl)
      refine take_ (i := 3) (N := some 27) (v := ?_) (a' := ?_) (zF 12 255) rfl rfl (take_ofW HT_.out HW_.out (by kernel_rfl)) (fun _ _ _ h => h) (Or.inl ⟨by rfl, ?_⟩) hHeld ?_ ?_
      rotate_left; (rintro w' s0; go_simp; with_reducible rfl); rotate_left; (simp only [Act.put, zA, zZ, zS, i64_w, i32_w]; rfl)
      refine pure_ (i := 8) (N := some 32) (v := ?_) (a' := ?_) (zF 12 511) rfl rfl (any_of HT_.out (by kernel_rfl)) (fun _ _ _ h => h) (Or.inl ⟨by rfl, ?_⟩) ?_ ?_
      rotate_left; (intro w'; go_simp; with_reducible rfl); rotate_left; (simp only [Act.put, zA, zZ, zS, i64_w, i32_w]; rfl)
      refine pure_ (i := 9) (N := some 33) (v := ?_) (a' := ?_) (zF 12 1023) rfl rfl (any_of HT_.out (by kernel_rfl)) (fun _ _ _ h => h) (Or.inl ⟨by rfl, ?_⟩) ?_ ?_
      rotate_left; (intro w'; go_simp; with_reducible rfl); rotate_left; (simp only [Act.put, zA, zZ, zS, i64_w, i32_w]; rfl)
      refine pure_ (i := 10) (N := some 34) (v := ?_) (a' := ?_) (zF 12 2047) rfl rfl (any_of HT_.out (by kernel_rfl)) (fun _ _ _ h => h) (Or.inl ⟨by rfl, ?_⟩) ?_ ?_
      rotate_left; (intro w'; go_simp; with_reducible rfl); rotate_left; (simp only [Act.put, zA, zZ, zS, i64_w, i32_w]; rfl)
      refine last_ (i := 11) (N := none) (zF 12 4095) rfl rfl (one_of HT_.out (by kernel_rfl)) (by decide) (fun K hK => ?_)
      have q3d : w3d.cell? ⟨g, 13, none⟩ = some (.int .i64 (Go.bits .andNot .i64 cmd (wrap64 4278190080))) := H3d.out.c13
      have qf3d := H3d.out.free 13
      refine skip_ (w1 := ?_) (by rfl) rfl ?_ ?_
      rotate_left
      · go_simp
        with_reducible rfl
      refine hK.out _ _ ?_
      clear hK K
      clear q3d qf3d
      refine done_ (done_of HT_.out (by kernel_rfl)) ?_
      clear hHeld
      have H3 := Aside0.mk (show PV hs B w0 (w3d.setCell ⟨g, 13, none⟩ (.int .i64 (Go.bits .or .i64 (Go.bits .andNot .i64 cmd (wrap64 4278190080)) (wrap64 (b * 16777216))))) g gp gd n m ⟨ps, da, dl, 3, Go.bits .or .i64 (Go.bits .andNot .i64 cmd (wrap64 4278190080)) (wrap64 (b * 16777216)), st⟩ from H3d.out.set_cmd (Go.bits .or .i64 (Go.bits .andNot .i64 cmd (wrap64 4278190080)) (wrap64 (b * 16777216))))
      clear H3d
      generalize w3d.setCell ⟨g, 13, none⟩ (.int .i64 (Go.bits .or .i64 (Go.bits .andNot .i64 cmd (wrap64 4278190080)) (wrap64 (b * 16777216)))) = w3 at H3 ⊢
      have c12 := (show w3.cell? ⟨g, 12, none⟩ = some (.int .i64 3) from H3.out.c12)
      have f12 := H3.out.free 12
      have H4 := Aside0.mk (H3.out.set_pl 4 4 rfl)
      go_wp2
      go_end0
      refine ⟨rfl, ?_⟩
      rw [show pcollect ⟨ps, da, dl, 3, cmd, st⟩ b = ⟨ps, da, dl, 4, Go.bits .or .i64 (Go.bits .andNot .i64 cmd (wrap64 4278190080)) (wrap64 (b * 16777216)), st⟩ from by unfold pcollect; rw [if_pos (by show (3 : Nat) < 4; decide)]; rfl]
      exact H4.out
  · have t4 : decide (4 ≤ (pl : Int)) = true := decide_eq_true (by omega)
    have t4n : 4 ≤ pl := by omega
    have c12 := H1.out.c12
    go_enter Tryd.func67, Tryd.ntmps67
    go_wp2
    refine bodyPost_ret (results_none rfl _ _ _) rfl ?_
    refine ⟨rfl, ?_⟩
    rw [show pcollect ⟨ps, da, dl, pl, cmd, st⟩ b = ⟨ps, da, dl, pl, cmd, st⟩ from by unfold pcollect; rw [if_neg h4]]
    exact H1.out
set_option maxHeartbeats 8000000 in
set_option maxRecDepth 100000 in
theorem pa_utf8 (hs : Nat → Value) (B : Nat) (w0 w : World) (g gp gd n m : Nat) (p : PM) (h : PV hs B w0 w g gp gd n m p) (b : Int) (hb0 : 0 ≤ b) (hb1 : b < 256) :
    Calls Tryd.prog 68 #[.pointer (some ⟨g, 0, none⟩), .int .u8 2, .int .u8 14, .int .u8 b] w fun e w' => e = .returned (.tuple #[]) ∧ PV hs B w0 w' g gp gd n m (pcollect { p with pl := 0 } b) := by
  have H1 := h.set_pl 0 0 rfl
  have c12 := h.c12
  have f12 := h.free 12
  have H1 := Aside0.mk H1
  have HB0 := Aside0.mk hb0
  have HB1 := Aside0.mk hb1
  clear h hb0 hb1
  go_enter Tryd.func68, Tryd.ntmps68
  go_wp2_with fail
  refine (collect_ hs B w0 _ g gp gd n m _ H1.out b HB0.out HB1.out).mono ?_
  rintro e w1 ⟨rfl, h1⟩
  have H2 := Aside0.mk h1
  clear h1
  go_wp2
  go_end0
  exact ⟨rfl, H2.out⟩
end Go.Proofs.YtmpmfdghdaofhaaDoor.Pm

namespace Go.Proofs.YtmpmfdghdaofhaaDoor.Pm
set_option linter.unusedVariables false
set_option linter.unusedSimpArgs false
open Go Go.RowKit Go.Proofs.YtmpmfdghdaofhaaDoorW.PrintWords Go.Proofs.YtmpmfdghdaofhaaDoorW.PrintLast Go.Proofs.YtmpmfdghdaofhaaDoorW.PrintMore
theorem PV.on {hs : Nat → Value} {B : Nat} {w0 W W' : World} {g gp gd n m : Nat} {p : PM} (h : PV hs B w0 W g gp gd n m p) (hb : Below W.heap.size W W') : PV hs B w0 W' g gp gd n m p :=
  h.far hb (Nat.le_trans h.hg (Nat.le_of_lt (blk_lt h.bc)))
def px (p : PM) : Int := p.ps.getD p.pl 0
def pparam (n : Nat) (p : PM) (b : Int) : PM :=
  if n ≤ p.pl then p
  else if b ≤ 57 then ⟨p.ps.set p.pl (wrap64 (wrap64 ((if px p = 2147483647 then 0 else px p) * 10) + (b - 48))), p.da, p.dl, p.pl, p.cmd, p.st⟩
  else if b = 58 then ⟨(p.ps.set p.pl (Go.bits .or .i64 (px p) (-2147483648))).set (p.pl + 1) 2147483647, p.da, p.dl, p.pl + 1, p.cmd, p.st⟩
  else ⟨p.ps.set (p.pl + 1) 2147483647, p.da, p.dl, p.pl + 1, p.cmd, p.st⟩
theorem u8d (b : Int) (h0 : 48 ≤ b) (h1 : b ≤ 57) : wrap64 (IntKind.u8.wrap (b - 48)) = b - 48 := by
  rw [IntKind.wrap_u8]
  unfold wrap64
  omega
theorem pa_param (hs : Nat → Value) (B : Nat) (w0 w : World) (g gp gd n m : Nat) (p : PM) (h : PV hs B w0 w g gp gd n m p) (st2 b : Int) (hb0 : 48 ≤ b) (hb1 : b ≤ 59) (hbig : n ≤ 1000000) :
    Calls Tryd.prog 68 #[.pointer (some ⟨g, 0, none⟩), .int .u8 8, .int .u8 st2, .int .u8 b] w fun e w' => e = .returned (.tuple #[]) ∧ PV hs B w0 w' g gp gd n m (pparam n p b) := by
  have hlen := h.hn
  unfold pparam
  by_cases hpl : n ≤ p.pl
  · rw [if_pos hpl]
    exact pa_full hs B w0 w g gp gd n m p h st2 b (by omega) (by omega) hpl
  rw [if_neg hpl]
  by_cases hd : b ≤ 57
  · rw [if_pos hd]
    by_cases hx : px p = 2147483647
    · rw [if_pos hx, ← u8d b hb0 hd]
      exact pa_dig_miss hs B w0 w g gp gd n m p h st2 b (by omega) (by omega) ⟨hb0, hd⟩ (by omega) hx
    · rw [if_neg hx, ← u8d b hb0 hd]
      exact pa_dig_some hs B w0 w g gp gd n m p h st2 b (by omega) (by omega) ⟨hb0, hd⟩ (by omega) hx
  rw [if_neg hd]
  by_cases hc : b = 58
  · rw [if_pos hc]
    subst hc
    by_cases hm : p.pl + 1 < n
    · exact pa_colon_more hs B w0 w g gp gd n m p h st2 (by omega) hm hbig
    · rw [List.set_eq_of_length_le (by rw [List.length_set]; omega)]
      exact pa_colon_last hs B w0 w g gp gd n m p h st2 (by omega) (by omega) hbig
  · rw [if_neg hc]
    obtain rfl : b = 59 := by omega
    by_cases hm : p.pl + 1 < n
    · exact pa_semi_more hs B w0 w g gp gd n m p h st2 (by omega) hm hbig
    · rw [List.set_eq_of_length_le (by omega)]
      exact pa_semi_last hs B w0 w g gp gd n m p h st2 (by omega) (by omega) hbig
def pact (n : Nat) (a st2 : Int) (p : PM) (b : Int) : PM :=
  if a = 0 then p else if a = 1 then pclear p else if a = 2 then (if st2 = 14 then pcollect { p with pl := 0 } b else pinter p b) else if a = 3 then pprefix p b else if a = 4 then pdisp n p b
  else if a = 5 then pexec p b else if a = 6 then pstart p b else if a = 7 then pput p b else if a = 8 then pparam n p b else pexec p b
theorem pa_act (hs : Nat → Value) (B : Nat) (w0 w : World) (g gp gd n m : Nat) (p : PM) (h : PV hs B w0 w g gp gd n m p) (a st2 b : Int) (hb0 : 0 ≤ b) (hb1 : b < 256) (ha0 : 0 ≤ a) (ha9 : a ≤ 9) (hnil : ∀ k, k < 9 → hs k = .nilFunc) (hdl : p.dl ≤ m) (hpl : p.pl ≤ n) (hm : m ≤ 1000000) (hn : n ≤ 1000000) (h4 : a = 4 → 1 ≤ p.st ∧ p.st ≤ 13) (h8 : a = 8 → 48 ≤ b ∧ b ≤ 59) :
    Calls Tryd.prog 68 #[.pointer (some ⟨g, 0, none⟩), .int .u8 a, .int .u8 st2, .int .u8 b] w fun e w' => e = .returned (.tuple #[]) ∧ PV hs B w0 w' g gp gd n m (pact n a st2 p b) := by
  rcases (show a = 0 ∨ a = 1 ∨ a = 2 ∨ a = 3 ∨ a = 4 ∨ a = 5 ∨ a = 6 ∨ a = 7 ∨ a = 8 ∨ a = 9 by omega) with rfl | rfl | rfl | rfl | rfl | rfl | rfl | rfl | rfl | rfl
  · exact pa_none hs B w0 w g gp gd n m p h st2 b hb0 hb1
  · exact pa_clear hs B w0 w g gp gd n m p h st2 b hb0 hb1
  · show Calls _ _ _ _ fun e w' => _ ∧ PV hs B w0 w' g gp gd n m (if st2 = 14 then _ else _)
    by_cases hs2 : st2 = 14
    · rw [if_pos hs2]
      subst hs2
      exact pa_utf8 hs B w0 w g gp gd n m p h b hb0 hb1
    · rw [if_neg hs2]
      exact pa_inter hs B w0 w g gp gd n m p h st2 b hb0 hb1 hs2
  · exact pa_prefix hs B w0 w g gp gd n m p h st2 b hb0 hb1
  · exact pa_disp hs B w0 w g gp gd n m p h st2 b hb0 hb1 hnil hdl hm (h4 rfl) hpl hn
  · exact pa_exec hs B w0 w g gp gd n m p h st2 b hb0 hb1 (hnil 1 (by decide))
  · exact pa_start hs B w0 w g gp gd n m p h st2 b hb0 hb1
  · exact pa_put hs B w0 w g gp gd n m p h st2 b hb0 hb1 hdl hm
  · exact pa_param hs B w0 w g gp gd n m p h st2 b (h8 rfl).1 (h8 rfl).2 hn
  · exact pa_print hs B w0 w g gp gd n m p h st2 b hb0 hb1 (hnil 0 (by decide))
def pmid (n2 a : Int) (p : PM) : PM := if p.st = n2 then p else if p.st = 8 then pclear p else if a = 7 ∧ p.st = 4 ∧ n2 = 7 then pstart p 0 else p
theorem pmid_st (n2 a : Int) (p : PM) : (pmid n2 a p).st = p.st := by
  unfold pmid
  split
  · rfl
  · split
    · rfl
    · split <;> rfl
theorem pmid_pl (n2 a : Int) (p : PM) : (pmid n2 a p).pl ≤ p.pl := by
  unfold pmid
  split
  · exact Nat.le_refl _
  · split
    · exact Nat.zero_le _
    · split <;> exact Nat.le_refl _
theorem pmid_dl (n2 a : Int) (p : PM) : (pmid n2 a p).dl ≤ p.dl := by
  unfold pmid
  split
  · exact Nat.le_refl _
  · split
    · exact Nat.le_refl _
    · split
      · exact Nat.zero_le _
      · exact Nat.le_refl _
def padvG (n : Nat) (n2 a : Int) (p : PM) (b : Int) : PM := { (if b = 27 ∧ p.st = 8 then pexec (pmid n2 a p) b else pact n a n2 (pmid n2 a p) b) with st := n2 }
def adv_T : Bool × List (List Nat × List Nat) := (true, [([], []), ([], []), ([1], [1]), ([2], [2]), ([3], [3]), ([], []), ([0, 4, 5, 0], [0, 4, 5]), ([6], [6]), ([7], [7]), ([7], [7]), ([8, 6, 0, 1, 2, 3, 4, 5, 6, 7, 8], [8]), ([9, 10, 0, 1, 2, 3, 4, 5, 6, 7, 8, 9, 10], [9])])
def adv_B : List Nat := [0, 0, 2, 6, 14, 0, 63, 127, 255, 255, 511, 2047]
theorem adv__tab : rtab .any (opsOf Tryd.f51 1) = adv_T := by kernel_rfl
theorem adv__bits : waitsOk adv_T.2 adv_B = true := by kernel_rfl
set_option maxHeartbeats 8000000 in
set_option maxRecDepth 100000 in
theorem adv_ (hs : Nat → Value) (B : Nat) (w0 w : World) (g gp gd n m : Nat) (p : PM) (h : PV hs B w0 w g gp gd n m p) (b n2 a : Int) (hb0 : 0 ≤ b) (hb1 : b < 256) (ha : 0 ≤ a ∧ a ≤ 9) (hnil : ∀ k, k < 9 → hs k = .nilFunc) (hp : p.dl ≤ m ∧ p.pl ≤ n) (hmn : m ≤ 1000000 ∧ n ≤ 1000000) (h48 : (a = 4 → 1 ≤ p.st ∧ p.st ≤ 13) ∧ (a = 8 → 48 ≤ b ∧ b ≤ 59))
    (htr : ∀ w, Calls Tryd.prog 19 #[.agg #[], .int .u8 p.st, .int .u8 b] w fun e w' => e = .returned (.tuple #[.int .u8 n2, .int .u8 a]) ∧ Below w.heap.size w w') :
    Calls Tryd.prog 51 #[.pointer (some ⟨g, 0, none⟩), .int .u8 b] w fun e w' => e = .returned (.int .u8 a) ∧ PV hs B w0 w' g gp gd n m (padvG n n2 a p b) := by
  have HB := Aside0.mk (show 0 ≤ b ∧ b < 256 from ⟨hb0, hb1⟩)
  have HA := Aside0.mk ha
  have HNL := Aside0.mk hnil
  have HMN := Aside0.mk hmn
  have H48 := Aside0.mk h48
  clear hb0 hb1 ha hnil hmn h48
  have H1 := Aside0.mk h
  have HTR := Aside0.mk htr
  have HP := Aside0.mk hp
  clear h htr hp
  go_enter Tryd.func51, Tryd.ntmps51
  go_wp2_with fail
  refine start_ (n := 12) (S := (fun w' => w'.cell? ⟨g, 14, none⟩ = some (.int .u8 p.st))) (ds := []) #[false, false, false, false, false, false, false, false, false, false, false, false] (by kernel_rfl) rfl rfl H1.out.c14 (fun hHeld => ?_)
  refine with_tabW adv__tab adv__bits (fun HT_ HW_ => ?_)
  have H2 := Aside0.mk (show PV hs B w0 w.drew g gp gd n m p from H1.out.drew)
  clear H1
  generalize w.drew = wd at H2 hHeld ⊢
  refine pure_ (i := 1) (N := some 9) (v := ?_) (a' := ?_) (zF 12 2) rfl rfl (any_of HT_.out (by kernel_rfl)) (fun _ _ _ h => h) (Or.inl ⟨by rfl, ?_⟩) ?_ ?_
  rotate_left; (intro w'; go_simp; with_reducible rfl); rotate_left; (simp only [Act.put, zA, zZ, zS, i64_w, i32_w]; rfl)
  refine pure_ (i := 2) (N := some 10) (v := ?_) (a' := ?_) (zF 12 6) rfl rfl (any_of HT_.out (by kernel_rfl)) (fun _ _ _ h => h) (Or.inl ⟨by rfl, ?_⟩) ?_ ?_
  rotate_left; (intro w'; go_simp; with_reducible rfl); rotate_left; (simp only [Act.put, zA, zZ, zS, i64_w, i32_w]; rfl)
  refine pure_ (i := 3) (N := some 11) (v := ?_) (a' := ?_) (zF 12 14) rfl rfl (any_of HT_.out (by kernel_rfl)) (fun _ _ _ h => h) (Or.inl ⟨by rfl, ?_⟩) ?_ ?_
  rotate_left; (intro w'; go_simp; with_reducible rfl); rotate_left; (simp only [Act.put, zA, zZ, zS, i64_w, i32_w]; rfl)
  refine pure_ (i := 5) (N := some 13) (v := ?_) (a' := ?_) (zF 12 46) rfl rfl (any_of HT_.out (by kernel_rfl)) (fun _ _ _ h => h) (Or.inl ⟨by rfl, ?_⟩) ?_ ?_
  rotate_left; (intro w'; go_simp; with_reducible rfl); rotate_left; (simp only [Act.put, zA, zZ, zS, i64_w, i32_w]; rfl)
  refine take_ (i := 4) (N := some 12) (v := ?_) (a' := ?_) (zF 12 62) rfl rfl (take_ofW HT_.out HW_.out (by kernel_rfl)) (fun _ _ _ h => h) (Or.inl ⟨by rfl, ?_⟩) hHeld ?_ ?_
  rotate_left; (rintro w' s0; go_simp; with_reducible rfl); rotate_left; (simp only [Act.put, zA, zZ, zS, i64_w, i32_w]; rfl)
  refine one_ (i := 0) (N := some 8) (zF 12 63) rfl rfl (one_of HT_.out (by kernel_rfl)) (by decide) (fun K hK => ?_)
  refine goes_ Tryd.func18 (by kernel_rfl) rfl #[] (by rfl) rfl rfl (by simp) ?_
  refine (Go.Proofs.YtmpmfdghdaofhaaDoor.Ma.table _).mono ?_
  rintro e wt ⟨rfl, hbt⟩
  refine ⟨_, rfl, ?_⟩
  have H3 := Aside0.mk (H2.out.on hbt)
  clear hbt H2
  refine hK.out _ _ H3.out.c14 (fun hHeld => ?_)
  clear hK K
  refine norm_ (a' := ?_) ?_ ?_
  rotate_left
  · show Act.put _ (some 8) _ = _
    simp only [Act.put, zA, zZ, zS, i64_w, i32_w]
    rfl
  refine one_ (i := 6) (N := some 14) (zF 12 127) rfl rfl (one_of HT_.out (by kernel_rfl)) (by decide) (fun K hK => ?_)
  refine goes_ Tryd.func19 (by kernel_rfl) rfl #[.agg #[], .int .u8 p.st, .int .u8 b] (by rfl) rfl rfl (by (try simp only [List.map_toArray, List.map_cons, List.map_nil]); first | done | rfl | (simp [Act.eval, *]; done)) ?_
  refine (HTR.out _).mono ?_
  rintro e wu ⟨rfl, hbt⟩
  refine ⟨_, rfl, ?_⟩
  have H4 := Aside0.mk (H3.out.on hbt)
  clear hbt H3
  refine hK.out _ _ H4.out.c14 (fun hHeld => ?_)
  clear hK K
  refine norm_ (a' := ?_) ?_ ?_
  rotate_left
  · show Act.put _ (some 14) _ = _
    simp only [Act.put, zA, zZ, zS, i64_w, i32_w]
    rfl
  refine pure_ (i := 7) (N := some 7) (v := ?_) (a' := ?_) (zF 12 255) rfl rfl (any_of HT_.out (by kernel_rfl)) (fun _ _ _ h => h) (Or.inl ⟨by rfl, ?_⟩) ?_ ?_
  rotate_left; (intro w'; go_simp; with_reducible rfl); rotate_left; (simp only [Act.put, zA, zZ, zS, i64_w, i32_w]; rfl)
  refine pure_ (i := 8) (N := some 15) (v := ?_) (a' := ?_) (zF 12 511) rfl rfl (any_of HT_.out (by kernel_rfl)) (fun _ _ _ h => h) (Or.inl ⟨by rfl, ?_⟩) ?_ ?_
  rotate_left; (intro w'; go_simp; with_reducible rfl); rotate_left; (simp only [Act.put, zA, zZ, zS, i64_w, i32_w]; rfl)
  refine pure_ (i := 9) (N := some 16) (v := ?_) (a' := ?_) (zF 12 1023) rfl rfl (any_of HT_.out (by kernel_rfl)) (fun _ _ _ h => h) (Or.inl ⟨by rfl, ?_⟩) ?_ ?_
  rotate_left; (intro w'; go_simp; with_reducible rfl); rotate_left; (simp only [Act.put, zA, zZ, zS, i64_w, i32_w]; rfl)
  refine pure_ (i := 10) (N := some 5) (v := ?_) (a' := ?_) (zF 12 2047) rfl rfl (any_of HT_.out (by kernel_rfl)) (fun _ _ _ h => h) (Or.inl ⟨by rfl, ?_⟩) ?_ ?_
  rotate_left; (intro w'; go_simp; with_reducible rfl); rotate_left; (simp only [Act.put, zA, zZ, zS, i64_w, i32_w]; rfl)
  refine pure_ (i := 11) (N := some 6) (v := ?_) (a' := ?_) (zF 12 4095) rfl rfl (any_of HT_.out (by kernel_rfl)) (fun _ _ _ h => h) (Or.inl ⟨by rfl, ?_⟩) ?_ ?_
  rotate_left; (intro w'; go_simp; with_reducible rfl); rotate_left; (simp only [Act.put, zA, zZ, zS, i64_w, i32_w]; rfl)
  refine done_ (done_of HT_.out (by kernel_rfl)) ?_
  clear hHeld
  have c14 := H4.out.c14
  obtain ⟨p1, hp1⟩ : ∃ p1, p1 = pmid n2 a p := ⟨_, rfl⟩
  have HP1 := Aside0.mk hp1
  have hs1 : p1.st = p.st := by rw [hp1]; exact pmid_st n2 a p
  clear hp1
  have HS1 := Aside0.mk hs1
  clear hs1
  go_upto_if 22 with (fail)
  go_cut [] from 22 to 47 (fun wc => Aside0 (PV hs B w0 wc g gp gd n m p1))
  case first =>
    by_cases h22 : p.st = n2
    · have t22 : (p.st != n2) = false := by simpa using h22
      have e1 : p1 = p := by rw [HP1.out]; unfold pmid; rw [if_pos h22]
      have E1 := Aside0.mk e1
      clear e1 h22
      go_wp2
      go_meet
      case rel => exact ⟨by rw [E1.out]; exact H4.out⟩
    · have t22 : (p.st != n2) = true := by simpa using h22
      by_cases h8 : p.st = 8
      · have t8 : (p.st == 8) = true := by simpa using h8
        have n4 : (p.st == 4) = false := by simp; omega
        have e1 : p1 = pclear p := by rw [HP1.out]; unfold pmid; rw [if_neg h22, if_pos h8]
        have E1 := Aside0.mk e1
        clear e1 h22 h8
        go_wp2_with fail
        refine (pa_clear hs B w0 wu g gp gd n m p H4.out n2 b HB.out.1 HB.out.2).mono ?_
        rintro e w1 ⟨rfl, h1⟩
        have H5 := Aside0.mk h1
        clear h1
        have c14' : w1.cell? ⟨g, 14, none⟩ = some (.int .u8 p.st) := H5.out.c14
        by_cases h7 : a = 7
        · have t7 : (a == 7) = true := by simpa using h7
          clear h7
          go_wp2
          go_meet
          case rel => exact ⟨by rw [E1.out]; exact H5.out⟩
        · have t7 : (a == 7) = false := by simpa using h7
          clear h7
          go_wp2
          go_meet
          case rel => exact ⟨by rw [E1.out]; exact H5.out⟩
      · have t8 : (p.st == 8) = false := by simpa using h8
        by_cases h7 : a = 7 ∧ p.st = 4 ∧ n2 = 7
        · have t7 : (a == 7) = true := by simpa using h7.1
          have t4 : (p.st == 4) = true := by simpa using h7.2.1
          have tn : (n2 == 7) = true := by simpa using h7.2.2
          have e1 : p1 = pstart p 0 := by rw [HP1.out]; unfold pmid; rw [if_neg h22, if_neg h8, if_pos h7]
          have E1 := Aside0.mk e1
          clear e1 h22 h8 h7
          go_wp2_with fail
          refine (pa_start hs B w0 wu g gp gd n m p H4.out n2 0 (by decide) (by decide)).mono ?_
          rintro e w1 ⟨rfl, h1⟩
          have H5 := Aside0.mk h1
          clear h1
          go_wp2
          go_meet
          case rel => exact ⟨by rw [E1.out]; exact H5.out⟩
        · have e1 : p1 = p := by rw [HP1.out]; unfold pmid; rw [if_neg h22, if_neg h8, if_neg h7]
          have E1 := Aside0.mk e1
          clear e1 h22 h8
          by_cases g7 : a = 7
          · have t7 : (a == 7) = true := by simpa using g7
            by_cases g4 : p.st = 4
            · have t4 : (p.st == 4) = true := by simpa using g4
              have tn : (n2 == 7) = false := by simp; exact fun h => h7 ⟨g7, g4, h⟩
              clear h7 g7 g4
              go_wp2
              go_meet
              case rel => exact ⟨by rw [E1.out]; exact H4.out⟩
            · have t4 : (p.st == 4) = false := by simpa using g4
              clear h7 g7 g4
              go_wp2
              go_meet
              case rel => exact ⟨by rw [E1.out]; exact H4.out⟩
          · have t7 : (a == 7) = false := by simpa using g7
            clear h7 g7
            go_wp2
            go_meet
            case rel => exact ⟨by rw [E1.out]; exact H4.out⟩
  case rest =>
    clear H4 c14
    have H6 := Aside0.mk hcut.out
    clear hcut
    have c14 : wc.cell? ⟨g, 14, none⟩ = some (.int .u8 p.st) := by rw [← HS1.out]; exact H6.out.c14
    by_cases h27 : b = 27
    · have t27 : (b == 27) = true := by simpa using h27
      by_cases h8 : p.st = 8
      · have t8 : (p.st == 8) = true := by simpa using h8
        have HX := Aside0.mk (show b = 27 ∧ p.st = 8 from ⟨h27, h8⟩)
        clear h27 h8
        go_wp2_with fail
        refine (pa_exec hs B w0 wc g gp gd n m p1 H6.out n2 b HB.out.1 HB.out.2 (HNL.out 1 (by decide))).mono ?_
        rintro e w2 ⟨rfl, h2⟩
        have H7 := Aside0.mk h2
        clear h2
        have x14 := H7.out.c14
        have f14 := H7.out.free 14
        have H8 := Aside0.mk (H7.out.set_st n2)
        go_wp2
        go_ret
        refine ⟨rfl, ?_⟩
        unfold padvG
        rw [if_pos HX.out, ← HP1.out]
        exact H8.out
      · have t8 : (p.st == 8) = false := by simpa using h8
        have HX := Aside0.mk (show ¬ (b = 27 ∧ p.st = 8) from fun h => h8 h.2)
        clear h27 h8
        go_wp2_with fail
        refine (pa_act hs B w0 wc g gp gd n m p1 H6.out a n2 b HB.out.1 HB.out.2 HA.out.1 HA.out.2 HNL.out (by rw [HP1.out]; exact Nat.le_trans (pmid_dl n2 a p) HP.out.1) (by rw [HP1.out]; exact Nat.le_trans (pmid_pl n2 a p) HP.out.2) HMN.out.1 HMN.out.2 (by rw [HS1.out]; exact H48.out.1) H48.out.2).mono ?_
        rintro e w2 ⟨rfl, h2⟩
        have H7 := Aside0.mk h2
        clear h2
        have x14 := H7.out.c14
        have f14 := H7.out.free 14
        have H8 := Aside0.mk (H7.out.set_st n2)
        go_wp2
        go_ret
        refine ⟨rfl, ?_⟩
        unfold padvG
        rw [if_neg HX.out, ← HP1.out]
        exact H8.out
    · have t27 : (b == 27) = false := by simpa using h27
      have HX := Aside0.mk (show ¬ (b = 27 ∧ p.st = 8) from fun h => h27 h.1)
      clear h27
      go_wp2_with fail
      refine (pa_act hs B w0 wc g gp gd n m p1 H6.out a n2 b HB.out.1 HB.out.2 HA.out.1 HA.out.2 HNL.out (by rw [HP1.out]; exact Nat.le_trans (pmid_dl n2 a p) HP.out.1) (by rw [HP1.out]; exact Nat.le_trans (pmid_pl n2 a p) HP.out.2) HMN.out.1 HMN.out.2 (by rw [HS1.out]; exact H48.out.1) H48.out.2).mono ?_
      rintro e w2 ⟨rfl, h2⟩
      have H7 := Aside0.mk h2
      clear h2
      have x14 := H7.out.c14
      have f14 := H7.out.free 14
      have H8 := Aside0.mk (H7.out.set_st n2)
      go_wp2
      go_ret
      refine ⟨rfl, ?_⟩
      unfold padvG
      rw [if_neg HX.out, ← HP1.out]
      exact H8.out
end Go.Proofs.YtmpmfdghdaofhaaDoor.Pm
