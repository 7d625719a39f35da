/- xansi.DeviceStatusReport, by hand. -/
import Derived.Test.YtakjcihjkagnfaaDoorModesT
namespace Go.Proofs.YtakjcihjkagnfaaDoor.Mo
set_option linter.unusedVariables false
set_option linter.unusedSimpArgs false
open Go Go.RowKit Go.Proofs.YtakjcihjkagnfaaDoor.PM Go.Proofs.YtakjcihjkagnfaaDoor.Or Go.Proofs.YtakjcihjkagnfaaDoor.Dig Go.Proofs.YtakjcihjkagnfaaDoor.Mp Go.Proofs.YtakjcihjkagnfaaDoorW.PrintWords Go.Proofs.YtakjcihjkagnfaaDoorW.PrintLast Go.Proofs.YtakjcihjkagnfaaDoorW.PrintMore

set_option maxRecDepth 100000 in
theorem st_dec (v : Value) (W : World) : (Instr.typeAssert (.iface 46 v) 65 46 true).run Tryd.prog W = .ok (.tuple #[v, .bool true]) W := by rfl
set_option maxRecDepth 100000 in
theorem st_ansi (v : Value) (W : World) : (Instr.typeAssert (.iface 47 v) 65 46 true).run Tryd.prog W = .ok (.tuple #[.int .i64 0, .bool false]) W := by kernel_rfl
set_option maxRecDepth 100000 in
theorem smeth_dec (n : Int) (w : World) : (method 273 46 (.int .i64 n) "StatusReport").run Tryd.prog w = .ok (89, .int .i64 n) w := by kernel_rfl
set_option maxRecDepth 100000 in
theorem smeth_ansi (n : Int) (w : World) : (method 273 47 (.int .i64 n) "StatusReport").run Tryd.prog w = .ok (90, .int .i64 n) w := by kernel_rfl
theorem at_R {w : World} {A : Option Addr} {n : Nat} {xs : List S31} (h : kR.C w A n xs) (i : Int) (h0 : 0 ≤ i) (h1 : i < n) : ∃ ad, A = some ad ∧ w.cell? (ad.add i.toNat) = some (encR (rdOf z31 xs i)) :=
  ReadsOf.at_ (Kd.reads_of_C (enc := encR) (d := z31) (h1 := fun _ => rfl) h) i h0 h1
/-- The list of texts as it is filled. -/
def fil (l : List S31) (k : Nat) : List ByteArray := (l.take k).map (fun s => dig s.f1) ++ List.replicate (l.length - k) (⟨#[]⟩ : ByteArray)
theorem fil_len (l : List S31) (k : Nat) (hk : k ≤ l.length) : (fil l k).length = l.length := by
  unfold fil
  rw [List.length_append, List.length_map, List.length_take, List.length_replicate]
  omega
theorem fil_set (l : List S31) (k : Nat) (s : S31) (hk : k < l.length) (hs : l.take (k + 1) = l.take k ++ [s]) : (fil l k).set k (dig s.f1) = fil l (k + 1) := by
  unfold fil
  obtain ⟨m, hm⟩ : ∃ m, l.length - k = m + 1 := ⟨l.length - k - 1, by omega⟩
  rw [hs, List.map_append, hm, show l.length - (k + 1) = m by omega]
  exact set_mid _ _ _ k m (by rw [List.length_map, List.length_take]; omega)
theorem fil_end (l : List S31) : fil l l.length = l.map (fun s => dig s.f1) := by
  unfold fil
  rw [Nat.sub_self, List.take_length]
  simp
def dsrT (l : List S31) : ByteArray := ((if l.any (·.f0) = true then (⟨#[27, 91]⟩ : ByteArray) ++ ⟨#[63]⟩ else ⟨#[27, 91]⟩) ++ join ⟨#[59]⟩ (l.map (fun s => dig s.f1))) ++ ⟨#[110]⟩

set_option maxHeartbeats 8000000 in
set_option maxRecDepth 100000 in
theorem dsr_ (A0 : Option Addr) (c0 : Nat) (l : List S31) (w : World) (hr0 : Kd.C kR w A0 l.length l) (hl : l.length ≤ 100) (hin : InM l) (hLD : Laid w) :
    Calls Tryd.prog 14 #[.slice A0 l.length c0] w fun e w' => e = .returned (.string (dsrT l)) ∧ Below w.heap.size w w' := by
  have HR0 := Aside0.mk hr0
  have HIN := Aside0.mk hin
  have HL := Lib.hid hLD
  have HT := Aside0.mk (show dsrT l = _ from rfl)
  unfold dsrT at HT
  obtain ⟨T, hT⟩ : ∃ T, T = dsrT l := ⟨_, rfl⟩
  have HT := Aside0.mk hT
  rw [← hT]
  clear hr0 hin hLD hT
  obtain ⟨L, hL⟩ : ∃ L, L = l.length := ⟨_, rfl⟩
  have HLL := Aside0.mk hL
  have HL2 := Aside0.mk (show L ≤ 100 by omega)
  rw [← hL]
  have HIT := Aside0.mk (fun (n : Int) (h : -9223372036854775808 ≤ n ∧ n ≤ 9223372036854775807) (W : World) (hb : Below w.heap.size w W) => itoa_calls n h.1 h.2 W (HL.out.below hb))
  have HSZ := Aside0.mk (show ∀ s ∈ l.map (fun s => dig s.f1), s.size ≤ 21 from fun s hs => by
    obtain ⟨x, hx, rfl⟩ := List.mem_map.1 hs
    exact dig_size x.f1 (HIN.out x hx).1 (HIN.out x hx).2)
  obtain ⟨ja, hja⟩ : ∃ j, j = join ⟨#[59]⟩ (l.map (fun s => dig s.f1)) := ⟨_, rfl⟩
  have HJA := Aside0.mk (show xansi_zzJoin.f 300 (l.map (fun s => dig s.f1)) ⟨#[59]⟩ = some ja by rw [hja]; exact joined' _ _ (by rw [List.length_map]; omega) HSZ.out rfl 300 (by omega))
  have sja : ja.size ≤ 4400 := by
    have h1 := join_size ⟨#[59]⟩ rfl _ HSZ.out
    rw [List.length_map] at h1
    rw [hja]
    omega
  have HTJ := Aside0.mk (show T = ((if l.any (·.f0) = true then (⟨#[27, 91]⟩ : ByteArray) ++ ⟨#[63]⟩ else ⟨#[27, 91]⟩) ++ ja) ++ ⟨#[110]⟩ by rw [HT.out, hja]; rfl)
  have hn0 : (0 : Int) ≤ (L : Int) := by omega
  have HNL := Aside0.mk (show (L : Int).toNat * 16 ≤ 281474976710656 by rw [Int.toNat_natCast]; have := HL2.out; omega)
  clear hja HT hL hl HL HSZ
  have ta := st_dec
  have tb := st_ansi
  have hm1 := smeth_dec
  have hm2 := smeth_ansi
  go_enter Tryd.func14, Tryd.ntmps14
  go_wp2_with (first | ((with_reducible refine gate_dst (N := 10) rfl ?_); refine Kd.R_make Kd.string _ 9 rfl (N := 10) rfl 54 _ _ rfl (L : Int) rfl rfl Tryd.underlying54 (.string ⟨#[]⟩) 16 info9' rfl (by decide) (by omega) (⟨#[]⟩ : ByteArray) (ok := fun _ => True) (okp := fun _ => True) rfl (fun _ hk => hk) trivial hn0 HNL.out (Below.refl _ _) (Nat.le_refl _) ?_; intro v144 w9 ho10 hb hg_ hnew_; rw [Int.toNat_natCast] at ho10; have HM0 := Aside0.mk ho10; have HB0 := Aside0.mk hb; clear hg_ hnew_ ho10 hb) | fail)
  have HM1 := Aside0.mk (show Kd.R Kd.string 9 w9 w.heap.size (fun _ => True) v144 (fil l 0) by
    have e : fil l 0 = List.replicate L (⟨#[]⟩ : ByteArray) := by
      unfold fil
      rw [← HLL.out]
      rfl
    rw [e]
    exact HM0.out)
  clear HM0 HNL
  go_loopw [3, 13] (fun v3 v13 wr => ∃ (J : Int) (k : Nat) (bd : Bool), v13 = .int .i64 J ∧ v3 = .bool bd ∧ Aside0 (J = (k : Int)) ∧ Aside0 (k ≤ L) ∧ Aside0 (bd = (l.take k).any (·.f0)) ∧ Aside0 (Kd.R Kd.string 9 wr w.heap.size (fun _ => True) v144 (fil l k)) ∧ Aside0 (Below w.heap.size w wr)) (fun _ v13 _ => L - (intOf v13).toNat)
  case atStart => exact ⟨0, 0, false, rfl, rfl, ⟨rfl⟩, ⟨Nat.zero_le _⟩, ⟨rfl⟩, HM1, HB0⟩
  case round =>
    clear HM1 HB0
    obtain ⟨J, k, bd, rfl, rfl, HJ, HK, HBD, HD, HB⟩ := hrel
    by_cases hlt : k < L
    · have hj := HJ.out
      have tlt : decide (J < (L : Int)) = true := decide_eq_true (by omega)
      have p0 : 0 ≤ J := by omega
      have q0 : J < (L : Int) := by omega
      have hwr : wrap64 (J + 1) = J + 1 := by have := HL2.out; unfold wrap64; omega
      obtain ⟨ad, e0, hx⟩ := at_R HR0.out J p0 (by have := HLL.out; omega)
      cases e0
      replace hx := (HB.out.cell (World.block_lt_of_cell? w _ hx)).trans hx
      have hkl : k < l.length := by have := HLL.out; omega
      have htk := take_at2 l k hkl
      have hmem := rd_mem l k hkl
      rw [← hj] at htk hmem
      obtain ⟨s, hs⟩ : ∃ s, s = rdOf z31 l J := ⟨_, rfl⟩
      rw [← hs] at hx htk hmem
      obtain ⟨b, n⟩ := s
      have HN := Aside0.mk (HIN.out _ hmem)
      have hds := dig_size n HN.out.1 HN.out.2
      obtain ⟨y, hy⟩ : ∃ y, y = fil l k := ⟨_, rfl⟩
      obtain ⟨y2, hy2⟩ : ∃ y, y = fil l (k + 1) := ⟨_, rfl⟩
      have hyl : y.length = L := by rw [hy, fil_len l k (by omega)]; exact HLL.out.symm
      have HYS := Aside0.mk (show y.set J.toNat (dig n) = y2 by
        rw [hy, hy2, hj, Int.toNat_natCast]
        exact fil_set l k ⟨b, n⟩ hkl htk)
      have HBN := Aside0.mk (show (bd || b) = (l.take (k + 1)).any (·.f0) by
        rw [htk, List.any_append, HBD.out]
        simp)
      rw [← hy] at HD
      have HY2 := Aside0.mk hy2
      obtain ⟨g, co, eg, gb, gl, cl, HG⟩ := Kd.R_form HD.out (by omega)
      rw [hyl] at eg
      subst eg
      have GB := Aside0.mk gb
      have HYL := Aside0.mk hyl
      have HDr : Kd.R Kd.string 9 wr w.heap.size (fun _ => True) (.slice (some ⟨g, 0, none⟩) y.length co) y := by
        rw [hyl]
        exact HD.out
      have HDR := Aside0.mk HDr
      have qy : J < (y.length : Int) := by omega
      have HQY := Aside0.mk qy
      have HP0 := Aside0.mk p0
      clear hj hs hkl htk hmem hy hy2 hyl gb gl cl HG HDr qy HD HBD
      replace p0 := eq_true p0
      replace q0 := eq_true q0
      have FIN : ∀ (W : World), Below wr.heap.size wr W → True := fun _ _ => trivial
      clear FIN
      cases b with
      | true =>
        replace hx : wr.cell? (ad.add J.toNat) = some (.iface 46 (.int .i64 n)) := hx
        go_wp2_with fail
        refine (stat_dec n _).mono ?_
        rintro e w5 ⟨rfl, rfl⟩
        go_wp2_with fail
        refine (HIT.out n HN.out _ HB.out).mono ?_
        rintro e w6 ⟨rfl, hb6⟩
        have HD6 := Aside0.mk (Kd.R_below HDR.out hb6)
        have HB6 := Aside0.mk (below_step HB.out hb6)
        obtain ⟨hx6, hf6⟩ := Kd.R_celln (⟨#[]⟩ : ByteArray) HD6.out J HP0.out HQY.out
        have HP6 := Aside0.mk (Kd.R_putg HD6.out J (dig n))
        clear hb6 hx
        go_wp2_with (first | ((with_reducible refine gate_store (t := 9) (p := 23) rfl ?_); refine store_event (t := 9) (p := 23) (v := ?vo) (w1 := (w6.setCell ⟨g, J.toNat, none⟩ (.string (dig n)))) ?hg ?ho ?hn ?hr ?_; (case ho => rfl); (case hg => rfl); (case hn => rfl); (case hr => first | (go_simp; done) | (go_simp; rfl)); intro w19 hw; have HO1 := Aside0.mk (show Kd.R Kd.string 9 w19 w.heap.size (fun _ => True) (.slice (some ⟨g, 0, none⟩) L co) (fil l (k + 1)) by (rw [hw, ← HY2.out, ← HYS.out, ← HYL.out]; exact HP6.out.1)); have HB1 := Aside0.mk (show Below w.heap.size w w19 by (rw [hw]; exact below_set HB6.out GB.out)); clear hw) | fail)
        go_roundw
        case rel => exact ⟨wrap64 (J + 1), k + 1, true, rfl, rfl, ⟨by rw [hwr, HJ.out]; rfl⟩, ⟨hlt⟩, ⟨by rw [← HBN.out]; simp⟩, HO1, HB1⟩
        case measure =>
          have := HJ.out
          rw [hwr]
          simp [intOf]
          omega
      | false =>
        replace hx : wr.cell? (ad.add J.toNat) = some (.iface 47 (.int .i64 n)) := hx
        go_wp2_with fail
        refine (stat_ansi n _).mono ?_
        rintro e w5 ⟨rfl, rfl⟩
        go_wp2_with fail
        refine (HIT.out n HN.out _ HB.out).mono ?_
        rintro e w6 ⟨rfl, hb6⟩
        have HD6 := Aside0.mk (Kd.R_below HDR.out hb6)
        have HB6 := Aside0.mk (below_step HB.out hb6)
        obtain ⟨hx6, hf6⟩ := Kd.R_celln (⟨#[]⟩ : ByteArray) HD6.out J HP0.out HQY.out
        have HP6 := Aside0.mk (Kd.R_putg HD6.out J (dig n))
        clear hb6 hx
        go_wp2_with (first | ((with_reducible refine gate_store (t := 9) (p := 23) rfl ?_); refine store_event (t := 9) (p := 23) (v := ?vo) (w1 := (w6.setCell ⟨g, J.toNat, none⟩ (.string (dig n)))) ?hg ?ho ?hn ?hr ?_; (case ho => rfl); (case hg => rfl); (case hn => rfl); (case hr => first | (go_simp; done) | (go_simp; rfl)); intro w19 hw; have HO1 := Aside0.mk (show Kd.R Kd.string 9 w19 w.heap.size (fun _ => True) (.slice (some ⟨g, 0, none⟩) L co) (fil l (k + 1)) by (rw [hw, ← HY2.out, ← HYS.out, ← HYL.out]; exact HP6.out.1)); have HB1 := Aside0.mk (show Below w.heap.size w w19 by (rw [hw]; exact below_set HB6.out GB.out)); clear hw) | fail)
        go_roundw
        case rel => exact ⟨wrap64 (J + 1), k + 1, bd, rfl, rfl, ⟨by rw [hwr, HJ.out]; rfl⟩, ⟨hlt⟩, ⟨by rw [← HBN.out]; simp⟩, HO1, HB1⟩
        case measure =>
          have := HJ.out
          rw [hwr]
          simp [intOf]
          omega
    · have tlt : decide (J < (L : Int)) = false := decide_eq_false (by have := HJ.out; omega)
      have hk : k = L := by have := HK.out; omega
      rw [hk, HLL.out, List.take_length] at HBD
      rw [hk, HLL.out, fil_end] at HD
      obtain ⟨Aa, ca, ea⟩ := Kd.R_slice HD.out
      rw [List.length_map, ← HLL.out] at ea
      subst ea
      have RA := Kd.R_reads' HD.out
      have HZA := Aside0.mk (show ∀ W, Below wr.heap.size wr W → Calls Tryd.prog 57 #[.slice Aa L ca, .string ⟨#[59]⟩] W fun e w' => e = .returned (.string ja) ∧ Drawn0 W w' from fun W hb => by
        have hlen : (l.map (fun s => dig s.f1)).length = L := by rw [List.length_map]; exact HLL.out.symm
        have h_ := xansi_zzJoin.calls 300 Aa ca (l.map (fun s => dig s.f1)) ⟨#[59]⟩ ja W (Kd.C_below (by first | exact RA.2.2 | (rw [hlen]; exact RA.2.2)) hb) (by first | exact RA.2.1 | (rw [hlen]; exact RA.2.1)) HJA.out
        rw [hlen] at h_
        exact h_)
      rw [← HBD.out] at HTJ
      clear RA HD hk hlt HJ HK HBD
      cases bd with
      | true =>
        go_wp2_with fail
        refine (HZA.out _ (Below.refl _ _)).mono ?_
        rintro e w8 ⟨rfl, hd8⟩
        have HB8 := Aside0.mk (below_step HB.out hd8.below)
        clear hd8
        go_wp2
        go_ret
        exact ⟨by rw [HTJ.out]; rfl, HB8.out⟩
      | false =>
        go_wp2_with fail
        refine (HZA.out _ (Below.refl _ _)).mono ?_
        rintro e w8 ⟨rfl, hd8⟩
        have HB8 := Aside0.mk (below_step HB.out hd8.below)
        clear hd8
        go_wp2
        go_ret
        exact ⟨by rw [HTJ.out]; rfl, HB8.out⟩

end Go.Proofs.YtakjcihjkagnfaaDoor.Mo
