/- The walk of readParameters over a control sequence's body. -/
import Derived.Test.YtakjcihjkagnfaaDoorReadW1
import Derived.Deep.RegionLaw
namespace Go.Proofs.YtakjcihjkagnfaaDoor.Or
set_option linter.unusedVariables false
set_option linter.unusedSimpArgs false
open Go Go.RowKit Go.Proofs.YtakjcihjkagnfaaDoorW.PrintWords Go.Proofs.YtakjcihjkagnfaaDoorW.PrintLast

theorem drop_at (r : List Int) (k : Nat) (h : k < r.length) : r.drop k = r.getD k 0 :: r.drop (k + 1) := by
  rw [List.drop_eq_getElem_cons h]
  simp [List.getD_eq_getElem?_getD, h]

set_option maxHeartbeats 8000000 in
set_option maxRecDepth 100000 in
theorem rp_walk (w0 w : World) (B : Nat) (ad : Addr) (cap : Nat) (r : List Int) (hc : ∀ k, k < r.length → w0.cell? (ad.add k) = some (.int .u8 (r.getD k 0))) (hl : r.length ≤ 1000000) (h0 : 0 < r.length)
    (hs : SB w B 0 (.slice none 0 0) (.slice none 0 0) 0) (hbel : Below w0.heap.size w0 w) (hB : w0.heap.size ≤ B)
    (k0 : Nat) (p : Int) (hk0 : (k0 = 0 ∧ p = 0 ∧ ¬ (60 ≤ r.getD 0 0 ∧ r.getD 0 0 ≤ 63)) ∨ (k0 = 1 ∧ p = r.getD 0 0 ∧ 60 ≤ p ∧ p ≤ 63))
    (acc : List S36) (v : Int) (m : Bool) (t2 : List Int) (hscan : scanP (r.drop k0) [] 0 true = some (acc, v, m, t2)) (is : List Int) (f : Int) (hint : scanI t2 [] = (is, [f])) (hf0 : 64 ≤ f) (hf1 : f ≤ 126) (ps : List S36) (hps : ps = if t2.length < r.length - k0 then acc ++ [⟨v, m, false⟩] else acc) :
    Calls Tryd.prog 17 #[.slice (some ad) r.length cap, .pointer (some ⟨B, 0, none⟩)] w fun e w' => e = .returned (.int .i64 r.length) ∧ ∃ vP vI, SB w' B p vP vI f ∧
      Kd.R k36 39 w' w0.heap.size (fun k => k ≠ B ∧ some k ≠ vI.ownBlock) vP ps ∧ Kd.R (Kd.int .u8) 5 w' w0.heap.size (fun k => k ≠ B) vI is ∧ Below w0.heap.size w0 w' := by
  have HCC := Lib.hid hc
  have c0 := (hbel.cell (World.block_lt_of_cell? w0 _ (hc 0 h0))).trans (hc 0 h0)
  have e0 : ad.add 0 = ad := by simp [Addr.add]
  rw [e0] at c0
  have HS := Lib.hid hs
  have HBel := Lib.hid hbel
  have HSC := Lib.hid hscan
  have HIN := Lib.hid hint
  have HPSD := Lib.hid hps
  have hb1 := cell_of hs 1 (.int .u8 0) rfl
  have hz1 := froz_of hs 1
  have tl0 : decide (0 < r.length) = true := decide_eq_true h0
  obtain ⟨c, hcq⟩ : ∃ c, c = r.getD 0 0 := ⟨_, rfl⟩
  rw [← hcq] at c0 hk0
  have HCQ := Lib.hid hcq
  obtain ⟨bw, hbw⟩ : ∃ b, wB c 60 63 = b := ⟨_, rfl⟩
  have HBW := Lib.hid hbw
  clear hbw
  clear hc hs hbel hscan hint e0 hcq hps
  go_enter Tryd.func17, Tryd.ntmps17
  go_upto_if 20 with (go_at_call 19; (with_reducible refine (within_b _ _ _ _ HBW.out _).mono ?_); rintro e w' ⟨rfl, rfl⟩)
  go_cut [5] (fun i wc => i = .int .i64 (k0 : Int) ∧ Hid (SB wc B p (.slice none 0 0) (.slice none 0 0) 0) ∧ Hid (Below w0.heap.size w0 wc))
  case first =>
    rcases hk0 with ⟨rfl, rfl, hno⟩ | ⟨rfl, hpc, h60, h63⟩
    · obtain rfl : bw = false := HBW.out.symm.trans (wB_no (by omega))
      clear hno
      go_wp2
      go_meet
      case rel => exact ⟨rfl, HS, HBel⟩
    · subst hpc
      obtain rfl : bw = true := HBW.out.symm.trans (wB_yes h60 h63)
      clear h60 h63
      go_wp2
      go_meet
      case rel => exact ⟨rfl, Lib.hid (cell_set HS.out _), Lib.hid (HBel.out.setCell hB _)⟩
  case rest =>
    obtain ⟨rfl, HS1, HB1⟩ := hcut
    clear hb1 hz1 c0 tl0 HS HBel
    go_wp2_with fail
    have hsz : B < wc.heap.size := lt_of_block HS1.out
    have HP0 : Hid (PInv w0 B wc.heap.size p 0 true (.slice none 0 0) [] (wc.alloc (.cells #[.int .i64 0, .bool true, .bool false] 39))) :=
      Lib.hid ⟨(Below.heap_alloc wc _ B hsz).trans HS1.out, heap_alloc_new wc _, Kd.R_nil _ _ _ _ _, HB1.out.alloc HB1.out.size _, hB, hsz⟩
    obtain ⟨N, hN⟩ : ∃ N, N = wc.heap.size := ⟨_, rfl⟩
    rw [← hN] at HP0 ⊢
    clear hN hsz
    go_loopw [5, 8] (fun i sm wr => ∃ (k : Nat) (x : Int) (y : Bool) (vP : Value) (a : List S36), i = .int .i64 k ∧ sm = .bool (decide (k0 < k)) ∧ k0 ≤ k ∧ k ≤ r.length ∧ Hid (scanP (r.drop k) a x y = some (acc, v, m, t2)) ∧ Hid (PInv w0 B N p x y vP a wr) ∧ Hid (a.length ≤ k) ∧ 0 ≤ x) (fun i _ _ => r.length - (intOf i).toNat)
    case atStart => exact ⟨k0, 0, true, _, [], rfl, by simp, Nat.le_refl _, by omega, HSC, HP0, Lib.hid (Nat.zero_le _), Int.le_refl _⟩
    case round =>
      obtain ⟨k, x, y, vP, a, rfl, rfl, hk1, hk2, HX, HPI, HLA, hx0⟩ := hrel
      clear HP0 HSC
      have hlt : k < r.length := by
        rcases Nat.lt_or_ge k r.length with h | h
        · exact h
        · exfalso
          have h1 := HX.out
          rw [List.drop_of_length_le h] at h1
          have h2 := HIN.out
          rw [scan_nil h1] at h2
          simp [scanI] at h2
      have hcell := (HPI.out.bel.cell (World.block_lt_of_cell? w0 _ (HCC.out k hlt))).trans (HCC.out k hlt)
      obtain ⟨c, hcq⟩ : ∃ c, c = r.getD k 0 := ⟨_, rfl⟩
      rw [← hcq] at hcell
      have HCQ2 := Lib.hid hcq
      clear hcq
      have tlt : decide (k < r.length) = true := decide_eq_true hlt
      have hn0 := cell_of HPI.out.nb 0 (.int .i64 x) rfl
      have hn1 := cell_of HPI.out.nb 1 (.bool y) rfl
      have hn2 := cell_of HPI.out.nb 2 (.bool false) rfl
      have hb2 := cell_of HPI.out.sb 2 vP rfl
      have fn0 := froz_of HPI.out.nb 0
      have fn1 := froz_of HPI.out.nb 1
      have fn2 := froz_of HPI.out.nb 2
      have fb2 := froz_of HPI.out.sb 2
      have hNB : N ≠ B := by have := HPI.out.hN; omega
      have hBN : B ≠ N := fun e => hNB e.symm
      have hal : (a.length + 1) * 16 ≤ 140737488355328 := by have := HLA.out; omega
      by_cases hin : 48 ≤ c ∧ c ≤ 59
      · have HBW2 : Hid (wB c 48 59 = true) := Lib.hid (wB_yes hin.1 hin.2)
        by_cases hs : c = 59
        · skip
          have HM : Hid (PMid w0 B N p x y false vP a (wr.setCell ⟨N, 2, none⟩ (.bool false))) := Lib.hid (HPI.out.more false)
          have HNX : Hid (scanP (r.drop (k + 1)) (a ++ [⟨x, y, false⟩]) 0 true = some (acc, v, m, t2)) := Lib.hid (scan_semi (scan_at HX.out hlt) (HCQ2.out.symm.trans hs))
          subst hs
          go_wp2_with (first | (go_at_call 19; (with_reducible refine (within_b _ _ _ _ HBW2.out _).mono ?_); rintro e w' ⟨rfl, rfl⟩))
          have mb2 := cell_of HM.out.sb 2 vP rfl
          have mn0 := cell_of HM.out.nb 0 (.int .i64 x) rfl
          have mn1 := cell_of HM.out.nb 1 (.bool y) rfl
          have mn2 := cell_of HM.out.nb 2 (.bool false) rfl
          have mf2 := froz_of HM.out.sb 2
          obtain ⟨wm, hwm⟩ : ∃ wm, wm = wr.setCell ⟨N, 2, none⟩ (.bool false) := ⟨_, rfl⟩
          rw [← hwm] at HM mb2 mn0 mn1 mn2 mf2 ⊢
          clear hwm hn0 hn1 hn2 hb2 fn0 fn1 fn2 fb2 hcell
          have mb2a : (wm.alloc (.cells #[.int .i64 x, .bool y, .bool false] 39)).cell? ⟨B, 2, none⟩ = some vP := cell_of ((Below.heap_alloc wm _ B (lt_of_block HM.out.sb)).trans HM.out.sb) 2 vP rfl
          have hfr : ∀ (w1 : World), wm.drew.grownBy w1 vP.ownBlock → w1.frozen? ⟨B, 2, none⟩ = false ∧ w1.cell? ⟨B, 2, none⟩ = some vP := fun w1 hg => by
            have eB := hg.block B (lt_of_block HM.out.sb) (fun e => (HM.out.row.1 B e.symm).1 rfl)
            exact ⟨froz_of (eB.trans HM.out.sb) 2, cell_of (eB.trans HM.out.sb) 2 vP rfl⟩
          go_region_law (rw [show (wm.alloc (.cells #[.int .i64 x, .bool y, .bool false] 39)).drew = wm.drew.alloc (.cells #[.int .i64 x, .bool y, .bool false] 39) from rfl]; refine Kd.R_append_step k36 (w0 := w0) w0.heap.size (by rfl) (.tmp 70) (.tmp 72) 32 39 (.agg #[.int .i64 0, .bool false, .bool false]) 16 (by rfl) Tryd.underlying32 infoP rfl (by decide) (by omega) vP a (⟨x, y, false⟩ : S36) [.int .i64 x, .bool y, .bool false] (fun k => k ≠ B ∧ k ≠ N) (fun _ => False) (by simp [Act.eval]) (by simp [Act.eval]) (k36_mkM _ _ _ _) (fun _ hk => hk.elim) (fun q hq => ⟨by have := lt_of_block HM.out.sb; intro e; subst e; exact absurd hq (by show ¬ wm.heap.size ≤ _; omega), by have := lt_of_block HM.out.nb; intro e; subst e; exact absurd hq (by show ¬ wm.heap.size ≤ _; omega)⟩) (Kd.R_drew HM.out.row) (below_drew1 HM.out.bel) HM.out.bel.size (by omega) ?_; intro v1 w1 ho hb hg _; obtain ⟨A1, c1, rfl⟩ := Kd.R_slice ho; have hfz := (hfr w1 hg).1; have hce := (hfr w1 hg).2; have HO1 := Lib.hid ho; have HB1' := Lib.hid hb; have HG1 := Lib.hid hg; clear ho hb hg)
          all_goals
            have hQ := HM.out.app' HO1.out HB1'.out HG1.out
            have HQ := Lib.hid hQ
            have qn0 := cell_of hQ.nb 0 (.int .i64 x) rfl
            have qn1 := cell_of hQ.nb 1 (.bool y) rfl
            have qn2 := cell_of hQ.nb 2 (.bool false) rfl
            have gn0 := froz_of hQ.nb 0
            have gn1 := froz_of hQ.nb 1
            have gn2 := froz_of hQ.nb 2
            clear hQ HO1 HB1' HG1 hfz hce hfr mb2a mb2 mn0 mn1 mn2 mf2
            obtain ⟨wq, hwq⟩ : ∃ wq, wq = w1.setCell ⟨B, 2, none⟩ (.slice A1 (a.length + 1) c1) := ⟨_, rfl⟩
            rw [← hwq] at HQ qn0 qn1 qn2 gn0 gn1 gn2 ⊢
            clear hwq
            go_wp2
            go_roundw
            case rel => exact ⟨k + 1, 0, true, _, _, by go_num, by rw [decide_eq_true (by omega : k0 < k + 1)], by omega, by omega, HNX, Lib.hid HQ.out.next, Lib.hid (by have := HLA.out; simp; omega), Int.le_refl _⟩
            case measure => simp [intOf]; omega
        · by_cases hs2 : c = 58
          · skip
            have hs := hs2
            clear hs2
            have HM : Hid (PMid w0 B N p x y true vP a (wr.setCell ⟨N, 2, none⟩ (.bool true))) := Lib.hid (HPI.out.more true)
            have HNX : Hid (scanP (r.drop (k + 1)) (a ++ [⟨x, y, true⟩]) 0 true = some (acc, v, m, t2)) := Lib.hid (scan_colon (scan_at HX.out hlt) (HCQ2.out.symm.trans hs))
            subst hs
            go_wp2_with (first | (go_at_call 19; (with_reducible refine (within_b _ _ _ _ HBW2.out _).mono ?_); rintro e w' ⟨rfl, rfl⟩))
            have mb2 := cell_of HM.out.sb 2 vP rfl
            have mn0 := cell_of HM.out.nb 0 (.int .i64 x) rfl
            have mn1 := cell_of HM.out.nb 1 (.bool y) rfl
            have mn2 := cell_of HM.out.nb 2 (.bool true) rfl
            have mf2 := froz_of HM.out.sb 2
            obtain ⟨wm, hwm⟩ : ∃ wm, wm = wr.setCell ⟨N, 2, none⟩ (.bool true) := ⟨_, rfl⟩
            rw [← hwm] at HM mb2 mn0 mn1 mn2 mf2 ⊢
            clear hwm hn0 hn1 hn2 hb2 fn0 fn1 fn2 fb2 hcell
            have mb2a : (wm.alloc (.cells #[.int .i64 x, .bool y, .bool true] 39)).cell? ⟨B, 2, none⟩ = some vP := cell_of ((Below.heap_alloc wm _ B (lt_of_block HM.out.sb)).trans HM.out.sb) 2 vP rfl
            have hfr : ∀ (w1 : World), wm.drew.grownBy w1 vP.ownBlock → w1.frozen? ⟨B, 2, none⟩ = false ∧ w1.cell? ⟨B, 2, none⟩ = some vP := fun w1 hg => by
              have eB := hg.block B (lt_of_block HM.out.sb) (fun e => (HM.out.row.1 B e.symm).1 rfl)
              exact ⟨froz_of (eB.trans HM.out.sb) 2, cell_of (eB.trans HM.out.sb) 2 vP rfl⟩
            go_region_law (rw [show (wm.alloc (.cells #[.int .i64 x, .bool y, .bool true] 39)).drew = wm.drew.alloc (.cells #[.int .i64 x, .bool y, .bool true] 39) from rfl]; refine Kd.R_append_step k36 (w0 := w0) w0.heap.size (by rfl) (.tmp 70) (.tmp 72) 32 39 (.agg #[.int .i64 0, .bool false, .bool false]) 16 (by rfl) Tryd.underlying32 infoP rfl (by decide) (by omega) vP a (⟨x, y, true⟩ : S36) [.int .i64 x, .bool y, .bool true] (fun k => k ≠ B ∧ k ≠ N) (fun _ => False) (by simp [Act.eval]) (by simp [Act.eval]) (k36_mkM _ _ _ _) (fun _ hk => hk.elim) (fun q hq => ⟨by have := lt_of_block HM.out.sb; intro e; subst e; exact absurd hq (by show ¬ wm.heap.size ≤ _; omega), by have := lt_of_block HM.out.nb; intro e; subst e; exact absurd hq (by show ¬ wm.heap.size ≤ _; omega)⟩) (Kd.R_drew HM.out.row) (below_drew1 HM.out.bel) HM.out.bel.size (by omega) ?_; intro v1 w1 ho hb hg _; obtain ⟨A1, c1, rfl⟩ := Kd.R_slice ho; have hfz := (hfr w1 hg).1; have hce := (hfr w1 hg).2; have HO1 := Lib.hid ho; have HB1' := Lib.hid hb; have HG1 := Lib.hid hg; clear ho hb hg)
            all_goals
              have hQ := HM.out.app' HO1.out HB1'.out HG1.out
              have HQ := Lib.hid hQ
              have qn0 := cell_of hQ.nb 0 (.int .i64 x) rfl
              have qn1 := cell_of hQ.nb 1 (.bool y) rfl
              have qn2 := cell_of hQ.nb 2 (.bool true) rfl
              have gn0 := froz_of hQ.nb 0
              have gn1 := froz_of hQ.nb 1
              have gn2 := froz_of hQ.nb 2
              clear hQ HO1 HB1' HG1 hfz hce hfr mb2a mb2 mn0 mn1 mn2 mf2
              obtain ⟨wq, hwq⟩ : ∃ wq, wq = w1.setCell ⟨B, 2, none⟩ (.slice A1 (a.length + 1) c1) := ⟨_, rfl⟩
              rw [← hwq] at HQ qn0 qn1 qn2 gn0 gn1 gn2 ⊢
              clear hwq
              go_wp2
              go_roundw
              case rel => exact ⟨k + 1, 0, true, _, _, by go_num, by rw [decide_eq_true (by omega : k0 < k + 1)], by omega, by omega, HNX, Lib.hid HQ.out.next, Lib.hid (by have := HLA.out; simp; omega), Int.le_refl _⟩
              case measure => simp [intOf]; omega
          · have hd1 : 48 ≤ c := hin.1
            have hd2 : c ≤ 57 := by omega
            have hsd := scan_digit (scan_at HX.out hlt) (HCQ2.out ▸ hd1) (HCQ2.out ▸ hd2)
            have hx1 := hsd.1
            have HNX : Hid (scanP (r.drop (k + 1)) a (x * 10 + (c - 48)) false = some (acc, v, m, t2)) := Lib.hid (by have h := hsd.2; rw [← HCQ2.out] at h; exact h)
            have q59 : (c == 59) = false := by simpa using hs
            have q58 : (c == 58) = false := by simpa using hs2
            have qx : decide (100000 < x) = false := decide_eq_false (by omega)
            have em : (c - 48) % 256 = c - 48 := by omega
            have hul : IntKind.u8.wrap (c - 48) = c - 48 := by rw [IntKind.wrap_u8]; omega
            clear hsd hs hs2 hin hal
            go_wp2_with (first | (go_at_call 19; (with_reducible refine (within_b _ _ _ _ HBW2.out _).mono ?_); rintro e w' ⟨rfl, rfl⟩))
            go_roundw
            case rel => exact ⟨k + 1, x * 10 + (c - 48), false, _, a, by go_num, by rw [decide_eq_true (by omega : k0 < k + 1)], by omega, by omega, HNX, Lib.hid (HPI.out.digit _), Lib.hid (by have := HLA.out; omega), by omega⟩
            case measure => simp [intOf]; omega
      · have HBW2 : Hid (wB c 48 59 = false) := Lib.hid (wB_no (by omega))
        have hst := scan_stop (scan_at HX.out hlt) (HCQ2.out ▸ hin)
        obtain ⟨rfl, rfl, rfl, ht2⟩ := hst
        have HT2 : Hid (t2 = r.drop k) := Lib.hid (by rw [ht2]; exact (drop_at r k hlt).symm)
        have hlen2 : t2.length = r.length - k := by rw [HT2.out]; simp
        have HT3 : Hid ((t2.length < r.length - k0) ↔ k0 < k) := Lib.hid (by rw [hlen2]; omega)
        clear ht2 hlen2 hin
        have HINK : Hid (scanI (r.drop k) [] = (is, [f])) := Lib.hid (by rw [← HT2.out]; exact HIN.out)
        by_cases hks : k0 < k
        · have tks : decide (k0 < k) = true := decide_eq_true hks
          have HPS : Hid (ps = acc ++ [⟨v, m, false⟩]) := Lib.hid (HPSD.out.trans (if_pos (HT3.out.2 hks)))
          go_upto_if 84 with (first | (go_at_call 19; (with_reducible refine (within_b _ _ _ _ HBW2.out _).mono ?_); rintro e w' ⟨rfl, rfl⟩))
          go_cut [] (fun wc2 => ∃ vP2, Hid (IInv w0 B p vP2 (.slice none 0 0) ps [] wc2))
          case first =>
            have HM : Hid (PMid w0 B N p v m false vP acc wr) := Lib.hid HPI.out.mid
            have mb2a : (wr.alloc (.cells #[.int .i64 v, .bool m, .bool false] 39)).cell? ⟨B, 2, none⟩ = some vP := cell_of ((Below.heap_alloc wr _ B (lt_of_block HM.out.sb)).trans HM.out.sb) 2 vP rfl
            have hfr : ∀ (w1 : World), wr.drew.grownBy w1 vP.ownBlock → w1.frozen? ⟨B, 2, none⟩ = false ∧ w1.cell? ⟨B, 2, none⟩ = some vP := fun w1 hg => by
              have eB := hg.block B (lt_of_block HM.out.sb) (fun e => (HM.out.row.1 B e.symm).1 rfl)
              exact ⟨froz_of (eB.trans HM.out.sb) 2, cell_of (eB.trans HM.out.sb) 2 vP rfl⟩
            go_wp2_with fail
            go_region_law (rw [show (wr.alloc (.cells #[.int .i64 v, .bool m, .bool false] 39)).drew = wr.drew.alloc (.cells #[.int .i64 v, .bool m, .bool false] 39) from rfl]; refine Kd.R_append_step k36 (w0 := w0) w0.heap.size (by rfl) (.tmp 89) (.tmp 91) 32 39 (.agg #[.int .i64 0, .bool false, .bool false]) 16 (by rfl) Tryd.underlying32 infoP rfl (by decide) (by omega) vP acc (⟨v, m, false⟩ : S36) [.int .i64 v, .bool m, .bool false] (fun k => k ≠ B ∧ k ≠ N) (fun _ => False) (by simp [Act.eval]) (by simp [Act.eval]) (k36_mkM _ _ _ _) (fun _ hk => hk.elim) (fun q hq => ⟨by have := lt_of_block HM.out.sb; intro e; subst e; exact absurd hq (by show ¬ wr.heap.size ≤ _; omega), by have := lt_of_block HM.out.nb; intro e; subst e; exact absurd hq (by show ¬ wr.heap.size ≤ _; omega)⟩) (Kd.R_drew HM.out.row) (below_drew1 HM.out.bel) HM.out.bel.size (by omega) ?_; intro v1 w1 ho hb hg _; obtain ⟨A1, c1, rfl⟩ := Kd.R_slice ho; have hfz := (hfr w1 hg).1; have hce := (hfr w1 hg).2; have HO1 := Lib.hid ho; have HB1' := Lib.hid hb; have HG1 := Lib.hid hg; clear ho hb hg)
            all_goals
              have HQ : Hid (PMid w0 B N p v m false _ (acc ++ [⟨v, m, false⟩]) _) := Lib.hid (HM.out.app' HO1.out HB1'.out HG1.out)
              clear HO1 HB1' HG1 hfz hce hfr mb2a
              go_wp2
              go_meet
              case rel => exact ⟨_, Lib.hid (by rw [HPS.out]; exact HQ.out.inter)⟩
          case rest =>
            obtain ⟨vP2, HI0⟩ := hcut
            clear HX HPI HT2 HT3 HLA HBW2 hal hx0 hcell tlt hn0 hn1 hn2 hb2 fn0 fn1 fn2 fb2 hNB hBN
            go_wp2_with fail
            go_loopw [5] (fun i wr2 => ∃ (k2 : Nat) (vI : Value) (ii : List Int), i = .int .i64 k2 ∧ k2 ≤ r.length ∧ Hid (scanI (r.drop k2) ii = (is, [f])) ∧ Hid (IInv w0 B p vP2 vI ps ii wr2) ∧ Hid (ii.length ≤ k2)) (fun i _ => r.length - (intOf i).toNat)
            case atStart => exact ⟨k, _, [], rfl, by omega, HINK, HI0, Lib.hid (Nat.zero_le _)⟩
            case round =>
              obtain ⟨k2, vI, ii, rfl, hk22, HX2, HI, HL2⟩ := hrel
              clear HI0
              have hlt2 : k2 < r.length := inter_lt HX2.out
              have hcell2 := (HI.out.bel.cell (World.block_lt_of_cell? w0 _ (HCC.out k2 hlt2))).trans (HCC.out k2 hlt2)
              obtain ⟨c2, hcq2⟩ : ∃ c2, c2 = r.getD k2 0 := ⟨_, rfl⟩
              rw [← hcq2] at hcell2
              have HCQ3 := Lib.hid hcq2
              clear hcq2
              have tlt2 : decide (k2 < r.length) = true := decide_eq_true hlt2
              have jb3 := cell_of HI.out.sb 3 vI rfl
              have jf3 := froz_of HI.out.sb 3
              have jb4 := cell_of HI.out.sb 4 (.int .u8 0) rfl
              have jf4 := froz_of HI.out.sb 4
              have hal2 : (ii.length + 1) * 1 ≤ 140737488355328 := by have := HL2.out; omega
              by_cases hin2 : 32 ≤ c2 ∧ c2 ≤ 47
              · have HBW3 : Hid (wB c2 32 47 = true) := Lib.hid (wB_yes hin2.1 hin2.2)
                have HNX2 : Hid (scanI (r.drop (k2 + 1)) (ii ++ [c2]) = (is, [f])) := Lib.hid (by have h := inter_yes (inter_at HX2.out hlt2) (HCQ3.out ▸ hin2); rw [← HCQ3.out] at h; exact h)
                have hfr2 : ∀ (w1 : World), wr.drew.grownBy w1 vI.ownBlock → w1.frozen? ⟨B, 3, none⟩ = false ∧ w1.cell? ⟨B, 3, none⟩ = some vI := fun w1 hg => by
                  have eB := hg.block B (lt_of_block HI.out.sb) (fun e => HI.out.rowI.1 B e.symm rfl)
                  exact ⟨froz_of (eB.trans HI.out.sb) 3, cell_of (eB.trans HI.out.sb) 3 vI rfl⟩
                have jb3a : (wr.alloc (.cells #[.int .u8 c2] 5)).cell? ⟨B, 3, none⟩ = some vI := cell_of ((Below.heap_alloc wr _ B (lt_of_block HI.out.sb)).trans HI.out.sb) 3 vI rfl
                clear hin2 jb4 jf4
                go_upto_region 23 with (go_at_call 19; (with_reducible refine (within_b _ _ _ _ HBW3.out _).mono ?_); rintro e w' ⟨rfl, rfl⟩)
                go_region_law (rw [show (wr.alloc (.cells #[.int .u8 c2] 5)).drew = wr.drew.alloc (.cells #[.int .u8 c2] 5) from rfl]; refine Kd.R_append_step (Kd.int .u8) (w0 := w0) w0.heap.size (by rfl) (.tmp 110) (.tmp 115) 33 5 (.int .u8 0) 1 (by rfl) Tryd.underlying33 infoB rfl (by decide) (by omega) vI ii c2 [.int .u8 c2] (fun k => k ≠ B) (fun _ => False) (by simp [Act.eval]) (by simp [Act.eval]) rfl (fun _ hk => hk.elim) (fun q hq => by have := lt_of_block HI.out.sb; intro e; subst e; exact absurd hq (by show ¬ wr.heap.size ≤ _; omega)) (Kd.R_drew HI.out.rowI) (below_drew1 HI.out.bel) HI.out.bel.size (by omega) ?_; intro v1 w1 ho hb hg hat; obtain ⟨A1, c1, rfl⟩ := Kd.R_slice ho; have hfz := (hfr2 w1 hg).1; have hce := (hfr2 w1 hg).2; have HO1 := Lib.hid ho; have HB1' := Lib.hid hb; have HG1 := Lib.hid hg; have HAT := Lib.hid hat; clear ho hb hg hat)
                all_goals
                  have HQ := Lib.hid (HI.out.app' HO1.out HB1'.out HG1.out HAT.out)
                  clear HO1 HB1' HG1 HAT hfz hce hfr2 jb3a jb3 jf3 hcell2
                  obtain ⟨wq, hwq⟩ : ∃ wq, wq = w1.setCell ⟨B, 3, none⟩ (.slice A1 (ii.length + 1) c1) := ⟨_, rfl⟩
                  rw [← hwq] at HQ ⊢
                  clear hwq
                  go_wp2
                  go_roundw
                  case rel => exact ⟨k2 + 1, _, _, by go_num, by omega, HNX2, HQ, Lib.hid (by have := HL2.out; simp; omega)⟩
                  case measure => simp [intOf]; omega
              · have HBW3 : Hid (wB c2 32 47 = false) := Lib.hid (wB_no (by omega))
                have hst2 := inter_no (inter_at HX2.out hlt2) (HCQ3.out ▸ hin2)
                obtain ⟨hii, hcf, ht⟩ := hst2
                have hlen3 : r.length = k2 + 1 := by have := congrArg List.length ht; simp at this; omega
                rw [← HCQ3.out] at hcf
                have HBW4 : Hid (wB c2 64 126 = true) := Lib.hid (wB_yes (by omega) (by omega))
                have hne : ((k2 : Int) == (r.length : Int)) = false := by simp; omega
                have HE : Hid (r.length = k2 + 1) := Lib.hid hlen3
                have HF : Hid (c2 = f) := Lib.hid hcf
                have HII : Hid (is = ii) := Lib.hid hii
                clear hin2 jb3 jf3 hii hcf ht hlen3
                go_wp2_with (first | (go_at_call 19; first | ((with_reducible refine (within_b _ _ _ _ HBW3.out _).mono ?_); rintro e w' ⟨rfl, rfl⟩) | ((with_reducible refine (within_b _ _ _ _ HBW4.out _).mono ?_); rintro e w' ⟨rfl, rfl⟩)))
                go_ret
                have hfin : Ending.returned (Value.int .i64 ((k2 : Int) + 1)) = Ending.returned (Value.int .i64 (r.length : Int)) := by rw [HE.out]; rfl
                exact ⟨hfin, vP2, vI, by rw [← HF.out]; exact cell_set HI.out.sb _, Kd.R_far HI.out.rowP (fun q hq => hq.1) _, by rw [HII.out]; exact Kd.R_far HI.out.rowI (fun q hq => hq) _, HI.out.bel.setCell hB _⟩
        · have tks : decide (k0 < k) = false := decide_eq_false hks
          have HPS : Hid (ps = acc) := Lib.hid (HPSD.out.trans (if_neg (fun h => hks (HT3.out.1 h))))
          have hcut : ∃ vP2, Hid (IInv w0 B p vP2 (.slice none 0 0) ps [] wr) := ⟨vP, Lib.hid (by rw [HPS.out]; exact HPI.out.mid.inter)⟩
          go_upto_block 3 with (first | (go_at_call 19; (with_reducible refine (within_b _ _ _ _ HBW2.out _).mono ?_); rintro e w' ⟨rfl, rfl⟩))
          obtain ⟨vP2, HI0⟩ := hcut
          clear HX HPI HT2 HT3 HLA HBW2 hal hx0 hcell tlt hn0 hn1 hn2 hb2 fn0 fn1 fn2 fb2 hNB hBN
          go_wp2_with fail
          go_loopw [5] (fun i wr2 => ∃ (k2 : Nat) (vI : Value) (ii : List Int), i = .int .i64 k2 ∧ k2 ≤ r.length ∧ Hid (scanI (r.drop k2) ii = (is, [f])) ∧ Hid (IInv w0 B p vP2 vI ps ii wr2) ∧ Hid (ii.length ≤ k2)) (fun i _ => r.length - (intOf i).toNat)
          case atStart => exact ⟨k, _, [], rfl, by omega, HINK, HI0, Lib.hid (Nat.zero_le _)⟩
          case round =>
            obtain ⟨k2, vI, ii, rfl, hk22, HX2, HI, HL2⟩ := hrel
            clear HI0
            have hlt2 : k2 < r.length := inter_lt HX2.out
            have hcell2 := (HI.out.bel.cell (World.block_lt_of_cell? w0 _ (HCC.out k2 hlt2))).trans (HCC.out k2 hlt2)
            obtain ⟨c2, hcq2⟩ : ∃ c2, c2 = r.getD k2 0 := ⟨_, rfl⟩
            rw [← hcq2] at hcell2
            have HCQ3 := Lib.hid hcq2
            clear hcq2
            have tlt2 : decide (k2 < r.length) = true := decide_eq_true hlt2
            have jb3 := cell_of HI.out.sb 3 vI rfl
            have jf3 := froz_of HI.out.sb 3
            have jb4 := cell_of HI.out.sb 4 (.int .u8 0) rfl
            have jf4 := froz_of HI.out.sb 4
            have hal2 : (ii.length + 1) * 1 ≤ 140737488355328 := by have := HL2.out; omega
            by_cases hin2 : 32 ≤ c2 ∧ c2 ≤ 47
            · have HBW3 : Hid (wB c2 32 47 = true) := Lib.hid (wB_yes hin2.1 hin2.2)
              have HNX2 : Hid (scanI (r.drop (k2 + 1)) (ii ++ [c2]) = (is, [f])) := Lib.hid (by have h := inter_yes (inter_at HX2.out hlt2) (HCQ3.out ▸ hin2); rw [← HCQ3.out] at h; exact h)
              have hfr2 : ∀ (w1 : World), wr.drew.grownBy w1 vI.ownBlock → w1.frozen? ⟨B, 3, none⟩ = false ∧ w1.cell? ⟨B, 3, none⟩ = some vI := fun w1 hg => by
                have eB := hg.block B (lt_of_block HI.out.sb) (fun e => HI.out.rowI.1 B e.symm rfl)
                exact ⟨froz_of (eB.trans HI.out.sb) 3, cell_of (eB.trans HI.out.sb) 3 vI rfl⟩
              have jb3a : (wr.alloc (.cells #[.int .u8 c2] 5)).cell? ⟨B, 3, none⟩ = some vI := cell_of ((Below.heap_alloc wr _ B (lt_of_block HI.out.sb)).trans HI.out.sb) 3 vI rfl
              clear hin2 jb4 jf4
              go_upto_region 23 with (go_at_call 19; (with_reducible refine (within_b _ _ _ _ HBW3.out _).mono ?_); rintro e w' ⟨rfl, rfl⟩)
              go_region_law (rw [show (wr.alloc (.cells #[.int .u8 c2] 5)).drew = wr.drew.alloc (.cells #[.int .u8 c2] 5) from rfl]; refine Kd.R_append_step (Kd.int .u8) (w0 := w0) w0.heap.size (by rfl) (.tmp 110) (.tmp 115) 33 5 (.int .u8 0) 1 (by rfl) Tryd.underlying33 infoB rfl (by decide) (by omega) vI ii c2 [.int .u8 c2] (fun k => k ≠ B) (fun _ => False) (by simp [Act.eval]) (by simp [Act.eval]) rfl (fun _ hk => hk.elim) (fun q hq => by have := lt_of_block HI.out.sb; intro e; subst e; exact absurd hq (by show ¬ wr.heap.size ≤ _; omega)) (Kd.R_drew HI.out.rowI) (below_drew1 HI.out.bel) HI.out.bel.size (by omega) ?_; intro v1 w1 ho hb hg hat; obtain ⟨A1, c1, rfl⟩ := Kd.R_slice ho; have hfz := (hfr2 w1 hg).1; have hce := (hfr2 w1 hg).2; have HO1 := Lib.hid ho; have HB1' := Lib.hid hb; have HG1 := Lib.hid hg; have HAT := Lib.hid hat; clear ho hb hg hat)
              all_goals
                have HQ := Lib.hid (HI.out.app' HO1.out HB1'.out HG1.out HAT.out)
                clear HO1 HB1' HG1 HAT hfz hce hfr2 jb3a jb3 jf3 hcell2
                obtain ⟨wq, hwq⟩ : ∃ wq, wq = w1.setCell ⟨B, 3, none⟩ (.slice A1 (ii.length + 1) c1) := ⟨_, rfl⟩
                rw [← hwq] at HQ ⊢
                clear hwq
                go_wp2
                go_roundw
                case rel => exact ⟨k2 + 1, _, _, by go_num, by omega, HNX2, HQ, Lib.hid (by have := HL2.out; simp; omega)⟩
                case measure => simp [intOf]; omega
            · have HBW3 : Hid (wB c2 32 47 = false) := Lib.hid (wB_no (by omega))
              have hst2 := inter_no (inter_at HX2.out hlt2) (HCQ3.out ▸ hin2)
              obtain ⟨hii, hcf, ht⟩ := hst2
              have hlen3 : r.length = k2 + 1 := by have := congrArg List.length ht; simp at this; omega
              rw [← HCQ3.out] at hcf
              have HBW4 : Hid (wB c2 64 126 = true) := Lib.hid (wB_yes (by omega) (by omega))
              have hne : ((k2 : Int) == (r.length : Int)) = false := by simp; omega
              have HE : Hid (r.length = k2 + 1) := Lib.hid hlen3
              have HF : Hid (c2 = f) := Lib.hid hcf
              have HII : Hid (is = ii) := Lib.hid hii
              clear hin2 jb3 jf3 hii hcf ht hlen3
              go_wp2_with (first | (go_at_call 19; first | ((with_reducible refine (within_b _ _ _ _ HBW3.out _).mono ?_); rintro e w' ⟨rfl, rfl⟩) | ((with_reducible refine (within_b _ _ _ _ HBW4.out _).mono ?_); rintro e w' ⟨rfl, rfl⟩)))
              go_ret
              have hfin : Ending.returned (Value.int .i64 ((k2 : Int) + 1)) = Ending.returned (Value.int .i64 (r.length : Int)) := by rw [HE.out]; rfl
              exact ⟨hfin, vP2, vI, by rw [← HF.out]; exact cell_set HI.out.sb _, Kd.R_far HI.out.rowP (fun q hq => hq.1) _, by rw [HII.out]; exact Kd.R_far HI.out.rowI (fun q hq => hq) _, HI.out.bel.setCell hB _⟩
end Go.Proofs.YtakjcihjkagnfaaDoor.Or
