/- The walk of the law FnTextRead, by hand. -/
import Derived.Test.YtjjkagjdbjpikaaGreatDoorPTx3
import Derived.Test.YtjjkagjdbjpikaaGreatDoorOscW
import Derived.Test.YtjjkagjdbjpikaaGreatDoorExt2
import Derived.Laws.MakeOwn
namespace Go.Proofs.YtjjkagjdbjpikaaGreatDoor.TextL
set_option linter.unusedVariables false
set_option linter.unusedSimpArgs false
open Go Go.RowKit Go.Proofs.YtjjkagjdbjpikaaGreatDoorW.PrintWords Go.Proofs.YtjjkagjdbjpikaaGreatDoorW.PrintLast Go.Proofs.YtjjkagjdbjpikaaGreatDoorW.PrintMore Go.Proofs.YtjjkagjdbjpikaaGreatDoor.Or Go.Proofs.YtjjkagjdbjpikaaGreatDoor.PT

/-- What stands ahead of the text. -/
def pre (i : Int) : ByteArray :=
  if i = 0 then ⟨#[50, 59]⟩ else if i = 1 then ⟨#[49, 59]⟩ else if i = 2 then ⟨#[48, 59]⟩ else if i = 3 then ⟨#[49, 48, 59]⟩ else if i = 4 then ⟨#[49, 49, 59]⟩ else if i = 5 then ⟨#[49, 50, 59]⟩
  else if i = 6 then ⟨#[50, 50, 59]⟩ else if i = 7 then ⟨#[57, 59]⟩ else if i = 8 then ⟨#[50, 59, 76, 59]⟩ else ⟨#[50, 59, 49, 59]⟩
def oscT (X : ByteArray) : ByteArray := (⟨#[27, 93]⟩ : ByteArray) ++ (X ++ ⟨#[7]⟩)
theorem osc_list (X : ByteArray) : (oscT X).data.toList = 27 :: 93 :: (X.data.toList ++ [7]) := by
  simp [oscT, ByteArray.data_append]
theorem osc_size (X : ByteArray) : (oscT X).size = X.size + 3 := by
  unfold oscT
  rw [ByteArray.size_append, ByteArray.size_append]
  show 2 + (X.size + 1) = _
  omega
theorem osc_bytes (X : ByteArray) : bytesOf (oscT X) = 27 :: 93 :: (bytesOf X ++ [7]) := by
  unfold bytesOf
  rw [osc_list]
  simp
theorem osc_cell (W : World) (X : ByteArray) (e : TypeId) (j : Nat) (hj : j < X.size + 3) :
    (Lib.bytesWorld W e (oscT X)).cell? ⟨W.heap.size, j, none⟩ = some (.int .u8 ((27 :: 93 :: (bytesOf X ++ [7])).getD j 0)) := by
  rw [Lib.bytesWorld_cell W e (oscT X) j (by rw [osc_size]; exact hj), ← osc_bytes]
  congr 2
  unfold bytesOf
  have h : j < (oscT X).data.toList.length := by rw [Array.length_toList]; show j < (oscT X).size; rw [osc_size]; exact hj
  rw [List.getD_eq_getElem?_getD, List.getD_eq_getElem?_getD, List.getElem?_map, List.getElem?_eq_getElem h]
  rfl
theorem cv (W w' : World) (X : ByteArray) (hX : X.size ≤ 1000000) (hb : Below (Lib.bytesWorld W 5 (oscT X)).heap.size (Lib.bytesWorld W 5 (oscT X)) w') (c : Nat) :
    (convert 24 9 (.slice (some ⟨W.heap.size, 2, none⟩) X.size c)).run Tryz.prog w' = .ok (.string X) w' := by
  have hs : (oscT X).size ≤ 9223372036854775807 := by rw [osc_size]; omega
  have hl : (bytesOf (oscT X)).length = X.size + 3 := by rw [bytesOf_length, osc_size]
  have h := Kd.C_drop (m := 2) (c := X.size + 3) (Go.Proofs.YtjjkagjdbjpikaaGreatDoor.Ext.C_bytes W 5 (oscT X) hs) (by omega) (by omega)
  have e : (bytesOf (oscT X)).drop 2 = bytesOf X ++ [7] := by rw [osc_bytes]; rfl
  rw [e, if_neg (by omega)] at h
  have h2 := Kd.C_take (m := X.size) h (by rw [List.length_append, bytesOf_length]; omega)
  have e2 : (bytesOf X ++ [7]).take X.size = bytesOf X := by rw [← bytesOf_length X]; simp
  rw [e2] at h2
  have ea : (some (⟨W.heap.size, 0, none⟩ : Addr)).map (fun x => x.add (2 * (Kd.int .u8).sz)) = some ⟨W.heap.size, 2, none⟩ := by
    show some (Addr.add _ (2 * 1)) = _
    rw [Nat.mul_one, add_plain]
  rw [ea] at h2
  have h3 := Kd.C_string (P := Tryz.prog) (A := some ⟨W.heap.size, 2, none⟩) (c := c) Tryz.underlying24 Tryz.underlying5 Tryz.underlying9 (Kd.C_below h2 hb)
  have e3 : strOfNums (bytesOf X) = X := by
    unfold strOfNums bytesOf
    apply ByteArray.ext
    simp only [List.map_map]
    apply Array.toList_inj.1
    show List.map _ _ = _
    conv => rhs; rw [← List.map_id X.data.toList]
    apply List.map_congr_left
    intro b _
    show UInt8.ofNat ((b.toNat : Int)).toNat = b
    simp
  rw [e3, bytesOf_length] at h3
  exact h3

/-- No byte that ends a text. -/
def good (s : ByteArray) (k : Nat) : Prop := ∀ j, j < k → (bytesOf s).getD j 0 ≠ 27 ∧ (bytesOf s).getD j 0 ≠ 7

set_option maxHeartbeats 8000000 in
set_option maxRecDepth 100000 in
theorem body (i : Int) (s : ByteArray) (w : World) (hLD : Laid w) (h0 : 0 ≤ i) (h9 : i ≤ 9) (hs : s.size ≤ 1000) (hmk : impl_MakeText.f i s = some (oscT (pre i ++ s))) (haw : laws_makeAwake.f = some true) (hp : ∀ k, k < (bytesOf (pre i)).length → (bytesOf (pre i)).getD k 0 ≠ 27 ∧ (bytesOf (pre i)).getD k 0 ≠ 7) (hpl : (pre i).size ≤ 4) :
    Calls Tryz.prog 3 #[.int .i64 i, .string s] w fun e w' => e = .returned (.bool true) ∧ Below w.heap.size w w' := by
  have t0' : decide (2147483647 < s.size) = false := decide_eq_false (by omega)
  have t1' : decide (1000 < s.size) = false := decide_eq_false (by omega)
  have t2 : decide (i < 0) = false := decide_eq_false (by omega)
  have t3 : decide (9 < i) = false := decide_eq_false (by omega)
  have HLD := Lib.hid hLD
  have HMK := Lib.hid hmk
  have HAW := Lib.hid haw
  have HP := Lib.hid hp
  clear hLD hmk haw hp
  go_enter Tryz.func3, Tryz.ntmps3
  go_wp2_with fail
  go_loopw [26] (fun v wr => ∃ (k : Nat), v = .int .i64 k ∧ k ≤ s.size ∧ wr = w ∧ Hid (good s k)) (fun v _ => s.size - (intOf v).toNat)
  case atStart => exact ⟨0, rfl, by omega, rfl, Lib.hid (fun j hj => absurd hj (by omega))⟩
  case round =>
    obtain ⟨k, rfl, hk, rfl, HG⟩ := hrel
    by_cases hlt : k < s.size
    · have tlt : decide ((k : Int) < (s.size : Int)) = true := decide_eq_true (by omega)
      have hk0 : (0 : Int) ≤ (k : Int) := by omega
      have hll : k < s.data.toList.length := by rw [Array.length_toList]; exact hlt
      obtain ⟨C, hC⟩ : ∃ C : Int, C = (bytesOf s).getD k 0 := ⟨_, rfl⟩
      have hbe : (bytesOf s).getD k 0 = ((s[k]'hlt).toNat : Int) := by
        unfold bytesOf
        rw [List.getD_eq_getElem?_getD, List.getElem?_map, List.getElem?_eq_getElem hll]
        rfl
      have hbx : ∀ h : (k : Int).toNat < s.size, ((s[(k : Int).toNat]'h).toNat : Int) = C := fun h => by rw [hC, hbe]; rfl
      have hby : ∀ h : k < s.size, ((s[k]'h).toNat : Int) = C := fun h => by rw [hC, hbe]
      have HC := Lib.hid hC
      clear hC hbe hll
      by_cases hbad : C = 27 ∨ C = 7 ∨ C = 24 ∨ C = 26
      · rcases hbad with rfl | rfl | rfl | rfl
        all_goals
          go_wp2_with fail
          refine (laws_makeAwake.calls true _ HLD.out HAW.out).mono ?_
          rintro e w1 ⟨rfl, hb1⟩
          go_wp2
          go_ret
          exact ⟨rfl, hb1⟩
      · have n1 : ¬ C = 27 := fun e => hbad (Or.inl e)
        have n2 : ¬ C = 7 := fun e => hbad (Or.inr (Or.inl e))
        have n3 : ¬ C = 24 := fun e => hbad (Or.inr (Or.inr (Or.inl e)))
        have n4 : ¬ C = 26 := fun e => hbad (Or.inr (Or.inr (Or.inr e)))
        have m1 : (C == 27) = false := by simpa using n1
        have m2 : (C == 7) = false := by simpa using n2
        have m3 : (C == 24) = false := by simpa using n3
        have m4 : (C == 26) = false := by simpa using n4
        clear hbad
        go_wp2
        go_roundw
        case rel => exact ⟨k + 1, by go_num, by omega, trivial, Lib.hid (fun j hj => by
          rcases Nat.lt_or_ge j k with h | h
          · exact HG.out j h
          · obtain rfl : j = k := by omega
            rw [← HC.out]
            exact ⟨n1, n2⟩)⟩
        case measure => simp [intOf]; omega
    · have tlt : decide ((k : Int) < (s.size : Int)) = false := decide_eq_false (by omega)
      have hk2 : k = s.size := by omega
      subst hk2
      go_wp2_with fail
      refine (impl_MakeText.calls i s (oscT (pre i ++ s)) wr HMK.out).mono ?_
      rintro e w1 ⟨rfl, hb1⟩
      obtain ⟨X, hX⟩ : ∃ X, X = pre i ++ s := ⟨_, rfl⟩
      have hXs : X.size ≤ 1004 := by rw [hX, ByteArray.size_append]; omega
      have hXg : ∀ k, k < (bytesOf X).length → (bytesOf X).getD k 0 ≠ 27 ∧ (bytesOf X).getD k 0 ≠ 7 := by
        have e1 : bytesOf X = bytesOf (pre i) ++ bytesOf s := by
          rw [hX]
          unfold bytesOf
          simp [ByteArray.data_append]
        intro k hk
        rw [e1] at hk ⊢
        rw [List.getD_eq_getElem?_getD]
        rcases Nat.lt_or_ge k (bytesOf (pre i)).length with h | h
        · rw [List.getElem?_append_left h, ← List.getD_eq_getElem?_getD]
          exact HP.out k h
        · rw [List.getElem?_append_right h, ← List.getD_eq_getElem?_getD]
          rw [List.length_append] at hk
          exact HG.out _ (by rw [← bytesOf_length s]; omega)
      rw [← hX]
      have HX := Lib.hid hX
      obtain ⟨n, hn⟩ : ∃ n, n = X.size := ⟨_, rfl⟩
      obtain ⟨cap, hcap⟩ : ∃ c, c = grownCap w1 (oscT X).size 0 5 := ⟨_, rfl⟩
      obtain ⟨B, hB⟩ : ∃ b, b = w1.heap.size := ⟨_, rfl⟩
      have hcle : n + 3 ≤ cap := by rw [hcap, hn, ← osc_size]; exact grownCap_ge _ _ _ _
      have HCV := Lib.hid (fun w' h c => cv w1 w' X (by omega) h c)
      have hconv := print_bytes (P := Tryz.prog) 9 24 5 Tryz.underlying9 Tryz.underlying24 Tryz.underlying5 (oscT X) w1
      have HBel : Hid (Below wr.heap.size wr (Lib.bytesWorld w1 5 (oscT X))) := Lib.hid (bytes_below hb1 (below_size hb1) _ _)
      have hcells := osc_cell w1 X 5
      obtain ⟨WB, hWB⟩ : ∃ W, W = Lib.bytesWorld w1 5 (oscT X) := ⟨_, rfl⟩
      rw [← hWB] at HCV hconv HBel hcells
      rw [← hcap, ← hB, osc_size, ← hn] at hconv
      rw [← hB] at hcells HCV
      rw [← hn] at hcells HCV
      have hlen : (bytesOf X).length = n := by rw [hn]; exact bytesOf_length X
      have HOS := Lib.hid (Osc.osc WB B cap (bytesOf X) (hcells 0 (by omega)) (hcells 1 (by omega)) (fun k hk => by
          rw [hcells (2 + k) (by omega)]
          congr 2
          rw [List.getD_eq_getElem?_getD, List.getD_eq_getElem?_getD, show 2 + k = k + 1 + 1 by omega, List.getElem?_cons_succ, List.getElem?_cons_succ, List.getElem?_append_left hk])
        (by
          rw [hcells (2 + (bytesOf X).length) (by omega)]
          congr 2
          rw [List.getD_eq_getElem?_getD, show 2 + (bytesOf X).length = (bytesOf X).length + 1 + 1 by omega, List.getElem?_cons_succ, List.getElem?_cons_succ, List.getElem?_append_right (Nat.le_refl _)]
          simp) (by omega) (by omega) hXg)
      rw [hlen] at HOS
      have hn2 : n ≤ 1004 := by omega
      obtain ⟨T, hT⟩ : ∃ T, T = oscT X := ⟨_, rfl⟩
      rw [← hT] at hconv ⊢
      clear hT hlen hcells hWB hB hcap hn hX hXs hXg hb1 t0' t1' t2 t3
      go_wp2_with fail
      refine HOS.out.mono ?_
      rintro e w5 ⟨rfl, hb5⟩
      go_upto_region 12 with (fail)
      obtain ⟨W6, hW6⟩ : ∃ W, W = w5.alloc (.cells #[.int .i64 3, .int .u8 0, .slice none 0 0, .slice none 0 0, .int .u8 0, .slice (some ⟨B, 2, none⟩) n (cap - 2), .bool true] 26) := ⟨_, rfl⟩
      have hbx : W6.heap[w5.heap.size]? = some (.cells #[.int .i64 3, .int .u8 0, .slice none 0 0, .slice none 0 0, .int .u8 0, .slice (some ⟨B, 2, none⟩) n (cap - 2), .bool true] 26 (0, 0)) := by rw [hW6]; exact heap_alloc_new w5 _
      have hb6 : Below WB.heap.size WB W6 := by rw [hW6]; exact hb5.alloc (below_size hb5) _
      rw [← hW6]
      obtain ⟨Bx, hBx⟩ : ∃ b, b = w5.heap.size := ⟨_, rfl⟩
      rw [← hBx] at hbx ⊢
      have HBX := Lib.hid hbx
      have HB6 := Lib.hid hb6
      clear hW6 hbx hb6 hBx hb5
      rcases (show i = 0 ∨ i = 1 ∨ i = 2 ∨ i = 3 ∨ i = 4 ∨ i = 5 ∨ i = 6 ∨ i = 7 ∨ i = 8 ∨ i = 9 by omega) with rfl | rfl | rfl | rfl | rfl | rfl | rfl | rfl | rfl | rfl
      all_goals
        have hX2 := HX.out
        simp only [pre, Int.reduceEq, reduceIte] at hX2
        have HX2 := Lib.hid hX2
        clear hX2
        go_wp2_with fail
        have ha := (Below.refl _ W6).alloc (Nat.le_refl _) (.cells #[.string ⟨#[50, 59]⟩, .string ⟨#[49, 59]⟩, .string ⟨#[48, 59]⟩, .string ⟨#[49, 48, 59]⟩, .string ⟨#[49, 49, 59]⟩, .string ⟨#[49, 50, 59]⟩, .string ⟨#[50, 50, 59]⟩, .string ⟨#[57, 59]⟩, .string ⟨#[50, 59, 76, 59]⟩, .string ⟨#[50, 59, 49, 59]⟩] 9)
        refine (laws_makeAwake.calls true _ (HLD.out.below ((HBel.out.trans (HB6.out.mono HBel.out.size)).trans (ha.mono (Nat.le_trans HBel.out.size HB6.out.size)))) HAW.out).mono ?_
        rintro e w8 ⟨rfl, hb8⟩
        have h68 : Below W6.heap.size W6 w8 := ha.trans (hb8.mono ha.size)
        have hb := (h68.block Bx (lt_of_block HBX.out)).trans HBX.out
        have g0 := Osc.cell_of hb 0 (.int .i64 3) rfl
        have g5 := Osc.cell_of hb 5 (.slice (some ⟨B, 2, none⟩) n (cap - 2)) rfl
        have g6 := Osc.cell_of hb 6 (.bool true) rfl
        have hcv := HCV.out w8 (HB6.out.trans (h68.mono HB6.out.size)) (cap - 2)
        rw [HX2.out] at hcv
        have HW := Lib.hid ((HBel.out.trans (HB6.out.mono HBel.out.size)).trans (h68.mono (Nat.le_trans HBel.out.size HB6.out.size)))
        clear hb h68 hb8 ha
        go_wp2
        go_ret
        exact ⟨rfl, HW.out⟩
set_option maxHeartbeats 4000000 in
theorem big (i : Int) (s : ByteArray) (w : World) (hs : 2147483647 < s.size) (hz : s.size ≤ 140737488351232) :
    Calls Tryz.prog 3 #[.int .i64 i, .string s] w fun e w' => e = .returned (.bool true) ∧ Below w.heap.size w w' := by
  have t0' : decide (2147483647 < s.size) = true := decide_eq_true (by omega)
  go_enter Tryz.func3, Tryz.ntmps3
  go_wp2
  go_ret
  exact ⟨rfl, Below.refl _ _⟩
set_option maxHeartbeats 4000000 in
theorem mid (i : Int) (s : ByteArray) (w : World) (hLD : Laid w) (hs : ¬ 2147483647 < s.size) (h2 : i < 0 ∨ 9 < i ∨ 1000 < s.size) (haw : laws_makeAwake.f = some true) :
    Calls Tryz.prog 3 #[.int .i64 i, .string s] w fun e w' => e = .returned (.bool true) ∧ Below w.heap.size w w' := by
  have t0' : decide (2147483647 < s.size) = false := decide_eq_false (by omega)
  by_cases c1 : i < 0
  · have t1 : decide (i < 0) = true := decide_eq_true c1
    go_enter Tryz.func3, Tryz.ntmps3
    go_wp2_with fail
    refine (laws_makeAwake.calls true w hLD haw).mono ?_
    rintro e w1 ⟨rfl, hb1⟩
    go_wp2
    go_ret
    exact ⟨rfl, hb1⟩
  have t1 : decide (i < 0) = false := decide_eq_false c1
  by_cases c2 : 9 < i
  · have t2 : decide (9 < i) = true := decide_eq_true c2
    go_enter Tryz.func3, Tryz.ntmps3
    go_wp2_with fail
    refine (laws_makeAwake.calls true w hLD haw).mono ?_
    rintro e w1 ⟨rfl, hb1⟩
    go_wp2
    go_ret
    exact ⟨rfl, hb1⟩
  have t2 : decide (9 < i) = false := decide_eq_false c2
  have c3 : 1000 < s.size := by omega
  have t3 : decide (1000 < s.size) = true := decide_eq_true c3
  go_enter Tryz.func3, Tryz.ntmps3
  go_wp2_with fail
  refine (laws_makeAwake.calls true w hLD haw).mono ?_
  rintro e w1 ⟨rfl, hb1⟩
  go_wp2
  go_ret
  exact ⟨rfl, hb1⟩

theorem pre_ok (i : Int) (h0 : 0 ≤ i) (h9 : i ≤ 9) : (∀ k, k < (bytesOf (pre i)).length → (bytesOf (pre i)).getD k 0 ≠ 27 ∧ (bytesOf (pre i)).getD k 0 ≠ 7) ∧ (pre i).size ≤ 4 := by
  rcases (show i = 0 ∨ i = 1 ∨ i = 2 ∨ i = 3 ∨ i = 4 ∨ i = 5 ∨ i = 6 ∨ i = 7 ∨ i = 8 ∨ i = 9 by omega) with rfl | rfl | rfl | rfl | rfl | rfl | rfl | rfl | rfl | rfl
  all_goals exact ⟨by decide +kernel, by decide +kernel⟩
theorem makes (i : Int) (s : ByteArray) (h0 : 0 ≤ i) (h9 : i ≤ 9) (hs : s.size ≤ 1000) : impl_MakeText.f i s = some (oscT (pre i ++ s)) := by
  have e2 : (⟨#[76, 59]⟩ ++ s : ByteArray).size = 2 + s.size := by rw [ByteArray.size_append]; rfl
  have e3 : (⟨#[49, 59]⟩ ++ s : ByteArray).size = 2 + s.size := by rw [ByteArray.size_append]; rfl
  rcases (show i = 0 ∨ i = 1 ∨ i = 2 ∨ i = 3 ∨ i = 4 ∨ i = 5 ∨ i = 6 ∨ i = 7 ∨ i = 8 ∨ i = 9 by omega) with rfl | rfl | rfl | rfl | rfl | rfl | rfl | rfl | rfl | rfl
  all_goals
    simp only [impl_MakeText.f, xansi_DECSIN.f, xansi_DECSWT.f, xansi_SetWindowTitle.f, xansi_SetIconName.f, xansi_SetIconNameWindowTitle.f, xansi_SetForegroundColor.f, xansi_SetBackgroundColor.f, xansi_SetCursorColor.f, xansi_SetPointerShape.f, xansi_Notify.f, Int.reduceEq, reduceIte, e2, e3]
    repeat rw [if_pos (by omega)]
    simp only [Option.bind_some, pre, Int.reduceEq, reduceIte]
    congr 1
/-- The law's walk. -/
theorem walk (haw : laws_makeAwake.f = some true) (i : Int) (s : ByteArray) (w : World) (hLD : Laid w) (w0 : (Lit.int .i64 i).wf = true) (w1 : s.size ≤ 140737488351232) :
    Calls Tryz.prog 3 #[.int .i64 i, .string s] w fun e w' => e = .returned (.bool true) ∧ Below w.heap.size w w' := by
  by_cases h1 : 2147483647 < s.size
  · exact big i s w h1 w1
  by_cases h2 : i < 0 ∨ 9 < i ∨ 1000 < s.size
  · exact mid i s w hLD h1 h2 haw
  exact body i s w hLD (by omega) (by omega) (by omega) (makes i s (by omega) (by omega) (by omega)) haw (pre_ok i (by omega) (by omega)).1 (pre_ok i (by omega) (by omega)).2
end Go.Proofs.YtjjkagjdbjpikaaGreatDoor.TextL
