/- Texts of this claim, joined; what isn't needed is left out (wip/slim.py). -/
import Derived.Test.YtmpmfdghdaofhaaDoorZH12
import Derived.Test.YtmpmfdghdaofhaaDoorZH13
import Derived.Test.YtmpmfdghdaofhaaDoorZH14
namespace Go.Proofs.YtmpmfdghdaofhaaDoor.Pm
set_option linter.unusedVariables false
set_option linter.unusedSimpArgs false
open Go Go.RowKit Go.Proofs.YtmpmfdghdaofhaaDoorW.PrintWords Go.Proofs.YtmpmfdghdaofhaaDoorW.PrintLast Go.Proofs.YtmpmfdghdaofhaaDoorW.PrintMore
theorem info98 : (Tryd.prog.info? 98).map (fun i => (i.zero, i.size, i.bytes)) = some (some (.int .i64 0), 1, 8) := by kernel_rfl
theorem take_set (xs ps : List Int) (k : Nat) (hk : k < xs.length) (hp : k < ps.length) (h : xs.take k = ps.take k) : (xs.set k (ps.getD k 0)).take (k + 1) = ps.take (k + 1) := by
  rw [List.take_add_one, List.take_set, List.set_eq_of_length_le (by rw [List.length_take]; omega), h, List.getElem?_set_self hk, List.take_add_one, List.getElem?_eq_getElem hp, List.getD_eq_getElem?_getD, List.getElem?_eq_getElem hp]
  rfl
set_option maxHeartbeats 8000000 in
set_option maxRecDepth 100000 in
theorem params_ (hs : Nat → Value) (B : Nat) (w0 w : World) (g gp gd n m : Nat) (p : PM) (h : PV hs B w0 w g gp gd n m p) (hpl : p.pl ≤ n) (hn : n ≤ 1000000) :
    Calls Tryd.prog 35 #[.pointer (some ⟨g, 0, none⟩)] w fun e w' => ∃ v, e = .returned v ∧ Kd.R (Kd.int .i64) 98 w' w.heap.size (fun _ => True) v (p.ps.take p.pl) ∧ Below w.heap.size w w' := by
  obtain ⟨ps, da, dl, pl, cmd, st⟩ := p
  replace hpl : pl ≤ n := hpl
  have c12 := h.c12
  have H := Aside0.mk h
  have HPL := Aside0.mk hpl
  have HN := Aside0.mk hn
  have hlen : ps.length = n := h.hn
  have HLEN := Aside0.mk hlen
  have z0 : (0 : Int) ≤ (pl : Int) := by omega
  clear h hpl hn hlen
  go_enter Tryd.func35, Tryd.ntmps35
  go_wp2_with (first | ((with_reducible refine gate_dst (N := 9) rfl ?_); refine Kd.R_make (Kd.int .i64) _ 98 rfl (N := 9) rfl 66 _ _ rfl (pl : Int) rfl rfl Tryd.underlying66 (.int .i64 0) 8 info98 rfl (by decide) (by omega) 0 (ok := fun _ => True) (okp := fun _ => True) rfl (fun _ hk => hk) trivial (by omega) (by have := HPL.out; have := HN.out; rw [Int.toNat_natCast]; omega) (Below.refl _ _) (Nat.le_refl _) ?_; intro v1 w1 ho hb hg_ hnew_; clear hg_ hnew_; rw [Int.toNat_natCast] at ho; obtain ⟨Aq, cap, e1⟩ : ∃ A c, v1 = .slice A pl c := (by obtain ⟨A, c, e⟩ := Kd.R_slice ho; exact ⟨A, c, by rw [e, List.length_replicate]⟩); subst e1; have HO := Aside0.mk ho; have HB := Aside0.mk hb; clear ho hb) | fail)
  go_loopw [12] (fun v wr => ∃ (J : Int) (k : Nat) (xs : List Int), v = .int .i64 J ∧ Aside0 (J = (k : Int)) ∧ Aside0 (k ≤ pl) ∧ Aside0 (xs.length = pl ∧ xs.take k = ps.take k) ∧ Aside0 (Kd.R (Kd.int .i64) 98 wr w.heap.size (fun _ => True) (.slice Aq pl cap) xs) ∧ Aside0 (Below w.heap.size w wr)) (fun v _ => pl - (intOf v).toNat)
  case atStart => exact ⟨0, 0, List.replicate pl 0, rfl, ⟨rfl⟩, ⟨Nat.zero_le _⟩, ⟨List.length_replicate, rfl⟩, HO, HB⟩
  case round =>
    clear HO HB
    obtain ⟨J, k, xs, rfl, HJ, HK, HX, HO, HB⟩ := hrel
    have hwr : wrap64 (J + 1) = J + 1 := by have := HJ.out; have := HK.out; have := HPL.out; have := HN.out; unfold wrap64; omega
    by_cases hlt : k < pl
    · have hj := HJ.out
      have tlt : decide (J < (pl : Int)) = true := decide_eq_true (by omega)
      have p0 : 0 ≤ J := by omega
      have p1 : J < (pl : Int) := by omega
      have p2 : J < (n : Int) := by have := HPL.out; omega
      obtain rfl : J = (k : Int) := hj
      have HV := Aside0.mk (H.out.on HB.out)
      have q9 := HV.out.c9
      have qp := HV.out.cp k (by have := HPL.out; omega)
      replace qp : wr.cell? ⟨gp, k, none⟩ = some (.int .i64 (ps.getD k 0)) := qp
      obtain ⟨x, hx⟩ : ∃ x, x = ps.getD k 0 := ⟨_, rfl⟩
      rw [← hx] at qp
      have HXV := Aside0.mk hx
      obtain ⟨gq, capq, e1, hge, _, cells, hcs⟩ := Kd.R_form HO.out (by have := HX.out.1; omega)
      rw [HX.out.1] at e1
      cases e1
      have HGE := Aside0.mk hge
      have hO2 : Kd.R (Kd.int .i64) 98 wr w.heap.size (fun _ => True) (.slice (some ⟨gq, 0, none⟩) xs.length cap) xs := by rw [HX.out.1]; exact HO.out
      have hcq := (Kd.R_cell (enc := Value.int .i64) (h1 := fun _ => rfl) 0 hO2 (k : Int) p0 (by have := HX.out.1; omega))
      rw [Int.toNat_natCast] at hcq
      obtain ⟨qz, fq⟩ := hcq
      have hput := (Kd.R_put (enc := Value.int .i64) (h1 := fun _ => rfl) hO2 (k : Int) x).1
      rw [Int.toNat_natCast, HX.out.1] at hput
      have HPUT := Aside0.mk hput
      clear hput hO2 hge hcs hx
      go_wp2_with fail
      go_roundw
      case rel =>
        refine ⟨_, k + 1, xs.set k x, rfl, ⟨by first | rfl | (rw [hwr]; rfl)⟩, ⟨by omega⟩, ⟨by rw [List.length_set]; exact HX.out.1, by rw [HXV.out]; exact take_set xs ps k (by have := HX.out.1; omega) (by have := HLEN.out; have := HPL.out; omega) HX.out.2⟩, HPUT, ⟨HB.out.setCell HGE.out _⟩⟩
      case measure =>
        (try rw [hwr])
        simp [intOf]
        omega
    · have tlt : decide (J < (pl : Int)) = false := decide_eq_false (by have := HJ.out; omega)
      have hfin : xs = ps.take pl := by
        have h1 := HX.out
        have hk : k = pl := by have := HK.out; omega
        rw [hk, List.take_of_length_le (by omega)] at h1
        exact h1.2
      have HF := Aside0.mk hfin
      clear hfin
      go_wp2
      go_ret
      exact ⟨_, rfl, by show Kd.R _ _ _ _ _ _ (ps.take pl); rw [← HF.out]; exact HO.out, HB.out⟩
set_option maxHeartbeats 8000000 in
set_option maxRecDepth 100000 in
theorem state_ (hs : Nat → Value) (B : Nat) (w0 w : World) (g gp gd n m : Nat) (p : PM) (h : PV hs B w0 w g gp gd n m p) :
    Calls Tryd.prog 30 #[.pointer (some ⟨g, 0, none⟩)] w fun e w' => e = .returned (.int .u8 p.st) ∧ Below w.heap.size w w' := by
  have c14 := h.c14
  clear h
  go_enter Tryd.func30, Tryd.ntmps30
  go_wp2
  go_ret
  exact ⟨rfl, Below.refl _ _⟩
set_option maxHeartbeats 8000000 in
set_option maxRecDepth 100000 in
theorem control_ (hs : Nat → Value) (B : Nat) (w0 w : World) (g gp gd n m : Nat) (p : PM) (h : PV hs B w0 w g gp gd n m p) :
    Calls Tryd.prog 31 #[.pointer (some ⟨g, 0, none⟩)] w fun e w' => e = .returned (.int .u8 (low p)) ∧ Below w.heap.size w w' := by
  have c13 := h.c13
  clear h
  go_enter Tryd.func31, Tryd.ntmps31
  go_wp2
  go_ret
  exact ⟨rfl, Below.refl _ _⟩
set_option maxHeartbeats 8000000 in
set_option maxRecDepth 100000 in
theorem command_ (hs : Nat → Value) (B : Nat) (w0 w : World) (g gp gd n m : Nat) (p : PM) (h : PV hs B w0 w g gp gd n m p) :
    Calls Tryd.prog 33 #[.pointer (some ⟨g, 0, none⟩)] w fun e w' => e = .returned (.int .i64 p.cmd) ∧ Below w.heap.size w w' := by
  have c13 := h.c13
  clear h
  go_enter Tryd.func33, Tryd.ntmps33
  go_wp2
  go_ret
  exact ⟨rfl, Below.refl _ _⟩
def rn4T : Bool × List (List Nat × List Nat) := (true, [([], []), ([0], [0]), ([1], [1]), ([2], [2]), ([3], [3]), ([], []), ([5], [5]), ([6], [6]), ([7], [7]), ([8], [8]), ([9], [9]), ([], []), ([11], [11]), ([12], [12]), ([13], [13]), ([14], [14]), ([15], [15]), ([], []), ([17], [17]), ([18], [18]), ([19], [19]), ([20], [20]), ([21], [21]), ([4, 10, 16, 22], [4, 10, 16, 22]), ([], []), ([24, 23, 0, 1, 2, 3, 4, 5, 6, 7, 8, 9, 10, 11, 12, 13, 14, 15, 16, 17, 18, 19, 20, 21, 22, 23, 24], [23, 24])])
def rn4B : List Nat := [0, 1, 3, 7, 15, 0, 32, 96, 224, 480, 992, 0, 2048, 6144, 14336, 30720, 63488, 0, 131072, 393216, 917504, 1966080, 4063232, 8388607, 0, 33554431]
theorem rn4_tab : rtab .any (opsOf Tryd.f32 4) = rn4T := by kernel_rfl
theorem rn4_bits : waitsOk rn4T.2 rn4B = true := by kernel_rfl
theorem wrap_rng (x : Int) : 0 ≤ IntKind.u8.wrap x ∧ IntKind.u8.wrap x < 256 := by
  rw [IntKind.wrap_u8]
  omega
theorem decode_ (W : World) (bq u cap : Nat) (y : Nat → Int) (hc : ∀ j, j < u → W.cell? ⟨bq, j, none⟩ = some (.int .u8 (y j))) (hy : ∀ j, j < u → 0 ≤ y j ∧ y j < 256) (hT : Lib.Utf8Tabs 0 1 W) :
    Calls Tryd.prog 53 #[.slice (some ⟨bq, 0, none⟩) u cap] W fun e w' => ∃ r k : Int, e = .returned (.tuple #[.int .i32 r, .int .i64 k]) ∧ Below W.heap.size W w' := by
  obtain ⟨s, hs⟩ : ∃ s : ByteArray, s = ⟨((List.range u).map (fun j => UInt8.ofNat (y j).toNat)).toArray⟩ := ⟨_, rfl⟩
  have hsz : s.size = u := by
    rw [hs]
    show ((List.range u).map (fun j => UInt8.ofNat (y j).toNat)).toArray.size = u
    simp
  have hget : ∀ j, j < u → ((s.get! j).toNat : Int) = y j := by
    intro j hj
    have h1 : s.get! j = UInt8.ofNat (y j).toNat := by
      rw [hs]
      show ((List.range u).map (fun j => UInt8.ofNat (y j).toNat)).toArray[j]! = _
      simp [hj]
    rw [h1]
    have := hy j hj
    rw [UInt8.toNat_ofNat']
    omega
  have h := Any7.utf8_DecodeRune Tryd.lays32 s bq 0 cap W hT (fun j hj => by
    rw [Nat.zero_add, hget j (by omega)]
    exact hc j (by omega))
  rw [hsz] at h
  exact Calls.mono h (fun e w' hh => ⟨_, _, hh.1, hh.2⟩)
set_option maxHeartbeats 8000000 in
set_option maxRecDepth 100000 in
theorem rune_ (hs : Nat → Value) (B : Nat) (w0 w : World) (g gp gd n m : Nat) (p : PM) (h : PV hs B w0 w g gp gd n m p) (hT : Lib.Utf8Tabs 0 1 w) :
    Calls Tryd.prog 32 #[.pointer (some ⟨g, 0, none⟩)] w fun e w' => ∃ r : Int, e = .returned (.int .i32 r) ∧ Below w.heap.size w w' := by
  obtain ⟨kx, hk⟩ := ulen_f (low p)
  obtain ⟨u, hu⟩ : ∃ u, u = ulen (low p) := ⟨_, rfl⟩
  rw [← hu] at hk
  have hur : u = 1 ∨ u = 2 ∨ u = 3 ∨ u = 4 ∨ u = -1 := by
    rw [hu]
    unfold ulen
    repeat' split
    all_goals omega
  have H := Aside0.mk h
  have HT := Aside0.mk hT
  have HK := Aside0.mk hk
  have c13 := h.c13
  clear h hT hk hu
  by_cases hm1 : u = -1
  · have tu : (u == -1) = true := by simpa using hm1
    clear hur hm1
    go_enter Tryd.func32, Tryd.ntmps32
    go_wp2_with fail
    refine (PW.xansi_utf8ByteLen.calls kx (low p) u w HK.out).mono ?_
    rintro e w1 ⟨rfl, hd⟩
    have HB := Aside0.mk hd.below
    clear hd
    go_wp2
    go_ret
    exact ⟨_, rfl, HB.out⟩
  · have tu : (u == -1) = false := by simpa using hm1
    have hu4 : 1 ≤ u ∧ u ≤ 4 := by omega
    clear hur hm1
    go_enter Tryd.func32, Tryd.ntmps32
    go_wp2_with fail
    refine (PW.xansi_utf8ByteLen.calls kx (low p) u w HK.out).mono ?_
    rintro e w1 ⟨rfl, hd⟩
    have HB := Aside0.mk hd.below
    have H1 := Aside0.mk (H.out.on hd.below)
    have HT1 := Aside0.mk (Utf8Tabs_below HT.out hd.below)
    have c13' := H1.out.c13
    clear hd c13
    go_wp2_with fail
    refine start_ (n := 26) (S := (fun w' => w'.cell? ⟨g, 13, none⟩ = some (.int .i64 p.cmd))) (ds := [25]) #[false, false, false, false, false, false, false, false, false, false, false, false, false, false, false, false, false, false, false, false, false, false, false, false, false, false] (by kernel_rfl) rfl rfl H1.out.c13 (fun hHeld => ?_)
    refine with_tabW rn4_tab rn4_bits (fun HT_ HW_ => ?_)
    have H2 := Aside0.mk (show PV hs B w0 w1.drew g gp gd n m p from H1.out.drew)
    have HBD := Aside0.mk (below_step HB.out (below_drew (Below.refl _ w1)))
    have HT2 := Aside0.mk (Utf8Tabs_below HT1.out (below_drew (Below.refl _ w1)))
    generalize w1.drew = w2 at H2 HBD HT2 hHeld ⊢
    refine pure_ (i := 0) (N := some 16) (v := ?_) (a' := ?_) (zF 26 1) rfl rfl (any_of HT_.out (by kernel_rfl)) (fun _ _ _ h => h) (Or.inl ⟨by rfl, ?_⟩) ?_ ?_
    rotate_left; (intro w'; go_simp; with_reducible rfl); rotate_left; (simp only [Act.put, zA, zZ, zS, i64_w, i32_w]; rfl)
    refine pure_ (i := 1) (N := some 17) (v := ?_) (a' := ?_) (zF 26 3) rfl rfl (any_of HT_.out (by kernel_rfl)) (fun _ _ _ h => h) (Or.inl ⟨by rfl, ?_⟩) ?_ ?_
    rotate_left; (intro w'; go_simp; with_reducible rfl); rotate_left; (simp only [Act.put, zA, zZ, zS, i64_w, i32_w]; rfl)
    refine pure_ (i := 2) (N := some 18) (v := ?_) (a' := ?_) (zF 26 7) rfl rfl (any_of HT_.out (by kernel_rfl)) (fun _ _ _ h => h) (Or.inl ⟨by rfl, ?_⟩) ?_ ?_
    rotate_left; (intro w'; go_simp; with_reducible rfl); rotate_left; (simp only [Act.put, zA, zZ, zS, i64_w, i32_w]; rfl)
    refine pure_ (i := 5) (N := some 21) (v := ?_) (a' := ?_) (zF 26 39) rfl rfl (any_of HT_.out (by kernel_rfl)) (fun _ _ _ h => h) (Or.inl ⟨by rfl, ?_⟩) ?_ ?_
    rotate_left; (intro w'; go_simp; with_reducible rfl); rotate_left; (simp only [Act.put, zA, zZ, zS, i64_w, i32_w]; rfl)
    refine pure_ (i := 6) (N := some 22) (v := ?_) (a' := ?_) (zF 26 103) rfl rfl (any_of HT_.out (by kernel_rfl)) (fun _ _ _ h => h) (Or.inl ⟨by rfl, ?_⟩) ?_ ?_
    rotate_left; (intro w'; go_simp; with_reducible rfl); rotate_left; (simp only [Act.put, zA, zZ, zS, i64_w, i32_w]; rfl)
    refine pure_ (i := 7) (N := some 23) (v := ?_) (a' := ?_) (zF 26 231) rfl rfl (any_of HT_.out (by kernel_rfl)) (fun _ _ _ h => h) (Or.inl ⟨by rfl, ?_⟩) ?_ ?_
    rotate_left; (intro w'; go_simp; with_reducible rfl); rotate_left; (simp only [Act.put, zA, zZ, zS, i64_w, i32_w]; rfl)
    refine pure_ (i := 11) (N := some 27) (v := ?_) (a' := ?_) (zF 26 2279) rfl rfl (any_of HT_.out (by kernel_rfl)) (fun _ _ _ h => h) (Or.inl ⟨by rfl, ?_⟩) ?_ ?_
    rotate_left; (intro w'; go_simp; with_reducible rfl); rotate_left; (simp only [Act.put, zA, zZ, zS, i64_w, i32_w]; rfl)
    refine pure_ (i := 12) (N := some 28) (v := ?_) (a' := ?_) (zF 26 6375) rfl rfl (any_of HT_.out (by kernel_rfl)) (fun _ _ _ h => h) (Or.inl ⟨by rfl, ?_⟩) ?_ ?_
    rotate_left; (intro w'; go_simp; with_reducible rfl); rotate_left; (simp only [Act.put, zA, zZ, zS, i64_w, i32_w]; rfl)
    refine pure_ (i := 13) (N := some 29) (v := ?_) (a' := ?_) (zF 26 14567) rfl rfl (any_of HT_.out (by kernel_rfl)) (fun _ _ _ h => h) (Or.inl ⟨by rfl, ?_⟩) ?_ ?_
    rotate_left; (intro w'; go_simp; with_reducible rfl); rotate_left; (simp only [Act.put, zA, zZ, zS, i64_w, i32_w]; rfl)
    refine pure_ (i := 17) (N := some 33) (v := ?_) (a' := ?_) (zF 26 145639) rfl rfl (any_of HT_.out (by kernel_rfl)) (fun _ _ _ h => h) (Or.inl ⟨by rfl, ?_⟩) ?_ ?_
    rotate_left; (intro w'; go_simp; with_reducible rfl); rotate_left; (simp only [Act.put, zA, zZ, zS, i64_w, i32_w]; rfl)
    refine pure_ (i := 18) (N := some 34) (v := ?_) (a' := ?_) (zF 26 407783) rfl rfl (any_of HT_.out (by kernel_rfl)) (fun _ _ _ h => h) (Or.inl ⟨by rfl, ?_⟩) ?_ ?_
    rotate_left; (intro w'; go_simp; with_reducible rfl); rotate_left; (simp only [Act.put, zA, zZ, zS, i64_w, i32_w]; rfl)
    refine pure_ (i := 19) (N := some 35) (v := ?_) (a' := ?_) (zF 26 932071) rfl rfl (any_of HT_.out (by kernel_rfl)) (fun _ _ _ h => h) (Or.inl ⟨by rfl, ?_⟩) ?_ ?_
    rotate_left; (intro w'; go_simp; with_reducible rfl); rotate_left; (simp only [Act.put, zA, zZ, zS, i64_w, i32_w]; rfl)
    refine take_ (i := 3) (N := some 19) (v := ?_) (a' := ?_) (zF 26 932079) rfl rfl (take_ofW HT_.out HW_.out (by kernel_rfl)) (fun _ _ _ h => h) (Or.inl ⟨by rfl, ?_⟩) hHeld ?_ ?_
    rotate_left; (rintro w' s0; go_simp; with_reducible rfl); rotate_left; (simp only [Act.put, zA, zZ, zS, i64_w, i32_w]; rfl)
    refine pure_ (i := 4) (N := some 20) (v := ?_) (a' := ?_) (zF 26 932095) rfl rfl (any_of HT_.out (by kernel_rfl)) (fun _ _ _ h => h) (Or.inl ⟨by rfl, ?_⟩) ?_ ?_
    rotate_left; (intro w'; go_simp; with_reducible rfl); rotate_left; (simp only [Act.put, zA, zZ, zS, i64_w, i32_w]; rfl)
    refine take_ (i := 8) (N := some 24) (v := ?_) (a' := ?_) (zF 26 932351) rfl rfl (take_ofW HT_.out HW_.out (by kernel_rfl)) (fun _ _ _ h => h) (Or.inl ⟨by rfl, ?_⟩) hHeld ?_ ?_
    rotate_left; (rintro w' s0; go_simp; with_reducible rfl); rotate_left; (simp only [Act.put, zA, zZ, zS, i64_w, i32_w]; rfl)
    refine pure_ (i := 9) (N := some 25) (v := ?_) (a' := ?_) (zF 26 932863) rfl rfl (any_of HT_.out (by kernel_rfl)) (fun _ _ _ h => h) (Or.inl ⟨by rfl, ?_⟩) ?_ ?_
    rotate_left; (intro w'; go_simp; with_reducible rfl); rotate_left; (simp only [Act.put, zA, zZ, zS, i64_w, i32_w]; rfl)
    refine pure_ (i := 10) (N := some 26) (v := ?_) (a' := ?_) (zF 26 933887) rfl rfl (any_of HT_.out (by kernel_rfl)) (fun _ _ _ h => h) (Or.inl ⟨by rfl, ?_⟩) ?_ ?_
    rotate_left; (intro w'; go_simp; with_reducible rfl); rotate_left; (simp only [Act.put, zA, zZ, zS, i64_w, i32_w]; rfl)
    refine take_ (i := 14) (N := some 30) (v := ?_) (a' := ?_) (zF 26 950271) rfl rfl (take_ofW HT_.out HW_.out (by kernel_rfl)) (fun _ _ _ h => h) (Or.inl ⟨by rfl, ?_⟩) hHeld ?_ ?_
    rotate_left; (rintro w' s0; go_simp; with_reducible rfl); rotate_left; (simp only [Act.put, zA, zZ, zS, i64_w, i32_w]; rfl)
    refine pure_ (i := 15) (N := some 31) (v := ?_) (a' := ?_) (zF 26 983039) rfl rfl (any_of HT_.out (by kernel_rfl)) (fun _ _ _ h => h) (Or.inl ⟨by rfl, ?_⟩) ?_ ?_
    rotate_left; (intro w'; go_simp; with_reducible rfl); rotate_left; (simp only [Act.put, zA, zZ, zS, i64_w, i32_w]; rfl)
    refine pure_ (i := 16) (N := some 32) (v := ?_) (a' := ?_) (zF 26 1048575) rfl rfl (any_of HT_.out (by kernel_rfl)) (fun _ _ _ h => h) (Or.inl ⟨by rfl, ?_⟩) ?_ ?_
    rotate_left; (intro w'; go_simp; with_reducible rfl); rotate_left; (simp only [Act.put, zA, zZ, zS, i64_w, i32_w]; rfl)
    refine take_ (i := 20) (N := some 36) (v := ?_) (a' := ?_) (zF 26 2097151) rfl rfl (take_ofW HT_.out HW_.out (by kernel_rfl)) (fun _ _ _ h => h) (Or.inl ⟨by rfl, ?_⟩) hHeld ?_ ?_
    rotate_left; (rintro w' s0; go_simp; with_reducible rfl); rotate_left; (simp only [Act.put, zA, zZ, zS, i64_w, i32_w]; rfl)
    refine pure_ (i := 21) (N := some 37) (v := ?_) (a' := ?_) (zF 26 4194303) rfl rfl (any_of HT_.out (by kernel_rfl)) (fun _ _ _ h => h) (Or.inl ⟨by rfl, ?_⟩) ?_ ?_
    rotate_left; (intro w'; go_simp; with_reducible rfl); rotate_left; (simp only [Act.put, zA, zZ, zS, i64_w, i32_w]; rfl)
    refine pure_ (i := 22) (N := some 38) (v := ?_) (a' := ?_) (zF 26 8388607) rfl rfl (any_of HT_.out (by kernel_rfl)) (fun _ _ _ h => h) (Or.inl ⟨by rfl, ?_⟩) ?_ ?_
    rotate_left; (intro w'; go_simp; with_reducible rfl); rotate_left; (simp only [Act.put, zA, zZ, zS, i64_w, i32_w]; rfl)
    refine pure_ (i := 23) (N := some 39) (v := ?_) (a' := ?_) (zF 26 16777215) rfl rfl (any_of HT_.out (by kernel_rfl)) (fun _ _ _ h => h) (Or.inl ⟨by rfl, ?_⟩) ?_ ?_
    rotate_left; (intro w'; go_simp; with_reducible rfl); rotate_left; (simp only [Act.put, zA, zZ, zS, i64_w, i32_w]; rfl)
    refine one_ (i := 24) (N := some 4) (zF 26 33554431) rfl rfl (one_of HT_.out (by kernel_rfl)) (by decide) (fun K hK => ?_)
    refine value_ (w1 := ?_) (v := ?_) (by rfl) rfl ?_ ?_
    rotate_left 2
    · go_simp
      constructor
      · rfl
      · rfl
    refine hK.out _ _ (H2.out.on (below_alloc (Below.refl _ _) _)).c13 (fun hHeld => ?_)
    clear hK K
    refine norm_ (a' := ?_) ?_ ?_
    rotate_left
    · show Act.put _ (some 4) _ = _
      simp only [Act.put, zA, zZ, zS, i64_w, i32_w]
      rfl
    have H3 := Aside0.mk (H2.out.on (below_alloc (Below.refl _ _) (.cells #[.int .u8 0, .int .u8 0, .int .u8 0, .int .u8 0] 95)))
    have HB3 := Aside0.mk (below_step HBD.out (below_alloc (Below.refl _ w2) (.cells #[.int .u8 0, .int .u8 0, .int .u8 0, .int .u8 0] 95)))
    have HT3 := Aside0.mk (Utf8Tabs_below HT2.out (below_alloc (Below.refl _ w2) (.cells #[.int .u8 0, .int .u8 0, .int .u8 0, .int .u8 0] 95)))
    have BK := Aside0.mk (blk_new w2 (.cells #[.int .u8 0, .int .u8 0, .int .u8 0, .int .u8 0] 95))
    have HLE := Aside0.mk (show w.heap.size ≤ w2.heap.size from HBD.out.size)
    clear H2 HBD HT2
    generalize w2.alloc (.cells #[.int .u8 0, .int .u8 0, .int .u8 0, .int .u8 0] 95) = w3 at H3 HB3 HT3 BK hHeld ⊢
    generalize w2.heap.size = bq at BK HLE ⊢
    refine last_ (i := 25) (N := none) (zF 26 67108863) rfl rfl (one_of HT_.out (by kernel_rfl)) (by decide) (fun K hK => ?_)
    have K0 := BK.out
    have K1 := blk_set K0 0 (.int .u8 (IntKind.u8.wrap p.cmd))
    have K2 := blk_set K1 1 (.int .u8 (IntKind.u8.wrap (p.cmd / 256)))
    have K3 := blk_set K2 2 (.int .u8 (IntKind.u8.wrap (p.cmd / 65536)))
    have K4 := blk_set K3 3 (.int .u8 (IntKind.u8.wrap (p.cmd / 16777216)))
    have q0 : w3.cell? ⟨bq, 0, none⟩ = some (.int .u8 0) := (blk_cell K0 0).trans rfl
    have q1 : (w3.setCell ⟨bq, 0, none⟩ (.int .u8 (IntKind.u8.wrap p.cmd))).cell? ⟨bq, 1, none⟩ = some (.int .u8 0) := (blk_cell K1 1).trans rfl
    have q2 : ((w3.setCell ⟨bq, 0, none⟩ (.int .u8 (IntKind.u8.wrap p.cmd))).setCell ⟨bq, 1, none⟩ (.int .u8 (IntKind.u8.wrap (p.cmd / 256)))).cell? ⟨bq, 2, none⟩ = some (.int .u8 0) := (blk_cell K2 2).trans rfl
    have q3 : (((w3.setCell ⟨bq, 0, none⟩ (.int .u8 (IntKind.u8.wrap p.cmd))).setCell ⟨bq, 1, none⟩ (.int .u8 (IntKind.u8.wrap (p.cmd / 256)))).setCell ⟨bq, 2, none⟩ (.int .u8 (IntKind.u8.wrap (p.cmd / 65536)))).cell? ⟨bq, 3, none⟩ = some (.int .u8 0) := (blk_cell K3 3).trans rfl
    have f0 : w3.frozen? ⟨bq, 0, none⟩ = false := blk_frozen K0 0
    have f1 : (w3.setCell ⟨bq, 0, none⟩ (.int .u8 (IntKind.u8.wrap p.cmd))).frozen? ⟨bq, 1, none⟩ = false := blk_frozen K1 1
    have f2 : ((w3.setCell ⟨bq, 0, none⟩ (.int .u8 (IntKind.u8.wrap p.cmd))).setCell ⟨bq, 1, none⟩ (.int .u8 (IntKind.u8.wrap (p.cmd / 256)))).frozen? ⟨bq, 2, none⟩ = false := blk_frozen K2 2
    have f3 : (((w3.setCell ⟨bq, 0, none⟩ (.int .u8 (IntKind.u8.wrap p.cmd))).setCell ⟨bq, 1, none⟩ (.int .u8 (IntKind.u8.wrap (p.cmd / 256)))).setCell ⟨bq, 2, none⟩ (.int .u8 (IntKind.u8.wrap (p.cmd / 65536)))).frozen? ⟨bq, 3, none⟩ = false := blk_frozen K3 3
    have K4' := Aside0.mk K4
    have K3' := Aside0.mk K3
    clear K0 K1 K2 K3 K4
    refine skip_ (w1 := ?_) (by rfl) rfl ?_ ?_
    rotate_left
    · go_simp
      with_reducible rfl
    refine hK.out _ _ ?_
    clear hK K
    refine done_ (done_of HT_.out (by kernel_rfl)) ?_
    clear hHeld q0 q1 q2 q3 f0 f1 f2 f3
    have HB4 := Aside0.mk ((((HB3.out.setCell (p := ⟨bq, 0, none⟩) HLE.out (.int .u8 (IntKind.u8.wrap p.cmd))).setCell (p := ⟨bq, 1, none⟩) HLE.out (.int .u8 (IntKind.u8.wrap (p.cmd / 256)))).setCell (p := ⟨bq, 2, none⟩) HLE.out (.int .u8 (IntKind.u8.wrap (p.cmd / 65536)))).setCell (p := ⟨bq, 3, none⟩) HLE.out (.int .u8 (IntKind.u8.wrap (p.cmd / 16777216))))
    have HT4 := Aside0.mk (Utf8Tabs_below HT.out HB4.out)
    clear K3' HB3 HT3 H3 BK
    generalize ((((w3.setCell ⟨bq, 0, none⟩ (.int .u8 (IntKind.u8.wrap p.cmd))).setCell ⟨bq, 1, none⟩ (.int .u8 (IntKind.u8.wrap (p.cmd / 256)))).setCell ⟨bq, 2, none⟩ (.int .u8 (IntKind.u8.wrap (p.cmd / 65536)))).setCell ⟨bq, 3, none⟩ (.int .u8 (IntKind.u8.wrap (p.cmd / 16777216)))) = w5 at K4' HB4 HT4 ⊢
    have hcell : ∀ j, j < 4 → w5.cell? ⟨bq, j, none⟩ = some (.int .u8 (match j with | 0 => (IntKind.u8.wrap p.cmd) | 1 => (IntKind.u8.wrap (p.cmd / 256)) | 2 => (IntKind.u8.wrap (p.cmd / 65536)) | _ => (IntKind.u8.wrap (p.cmd / 16777216)))) := by
      intro j hj
      rw [blk_cell K4'.out j]
      match j, hj with
      | 0, _ => rfl
      | 1, _ => rfl
      | 2, _ => rfl
      | 3, _ => rfl
    have HC := Aside0.mk hcell
    clear hcell
    rcases (show u = 1 ∨ u = 2 ∨ u = 3 ∨ u = 4 by omega) with rfl | rfl | rfl | rfl
    · go_wp2_with fail
      refine (decode_ w5 bq 1 4 _ (fun j hj => HC.out j (by omega)) (fun j hj => by (match j with | 0 => exact wrap_rng _ | 1 => exact wrap_rng _ | 2 => exact wrap_rng _ | _ + 3 => exact wrap_rng _)) HT4.out).mono ?_
      rintro e w6 ⟨r, k, rfl, hb6⟩
      have HB6 := Aside0.mk (below_step HB4.out hb6)
      clear hb6
      go_wp2
      go_ret
      exact ⟨_, rfl, HB6.out⟩
    · go_wp2_with fail
      refine (decode_ w5 bq 2 4 _ (fun j hj => HC.out j (by omega)) (fun j hj => by (match j with | 0 => exact wrap_rng _ | 1 => exact wrap_rng _ | 2 => exact wrap_rng _ | _ + 3 => exact wrap_rng _)) HT4.out).mono ?_
      rintro e w6 ⟨r, k, rfl, hb6⟩
      have HB6 := Aside0.mk (below_step HB4.out hb6)
      clear hb6
      go_wp2
      go_ret
      exact ⟨_, rfl, HB6.out⟩
    · go_wp2_with fail
      refine (decode_ w5 bq 3 4 _ (fun j hj => HC.out j (by omega)) (fun j hj => by (match j with | 0 => exact wrap_rng _ | 1 => exact wrap_rng _ | 2 => exact wrap_rng _ | _ + 3 => exact wrap_rng _)) HT4.out).mono ?_
      rintro e w6 ⟨r, k, rfl, hb6⟩
      have HB6 := Aside0.mk (below_step HB4.out hb6)
      clear hb6
      go_wp2
      go_ret
      exact ⟨_, rfl, HB6.out⟩
    · go_wp2_with fail
      refine (decode_ w5 bq 4 4 _ (fun j hj => HC.out j (by omega)) (fun j hj => by (match j with | 0 => exact wrap_rng _ | 1 => exact wrap_rng _ | 2 => exact wrap_rng _ | _ + 3 => exact wrap_rng _)) HT4.out).mono ?_
      rintro e w6 ⟨r, k, rfl, hb6⟩
      have HB6 := Aside0.mk (below_step HB4.out hb6)
      clear hb6
      go_wp2
      go_ret
      exact ⟨_, rfl, HB6.out⟩
end Go.Proofs.YtmpmfdghdaofhaaDoor.Pm
