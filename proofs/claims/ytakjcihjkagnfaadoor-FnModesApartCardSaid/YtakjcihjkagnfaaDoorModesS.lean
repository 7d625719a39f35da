/- xansi.setMode, by hand. -/
import Derived.Test.YtakjcihjkagnfaaDoorModesW
import Derived.Test.YtakjcihjkagnfaaDoorModesP
namespace Go.Proofs.YtakjcihjkagnfaaDoor.Mo
set_option linter.unusedVariables false
set_option linter.unusedSimpArgs false
open Go Go.RowKit Go.Proofs.YtakjcihjkagnfaaDoor.PM Go.Proofs.YtakjcihjkagnfaaDoor.Or Go.Proofs.YtakjcihjkagnfaaDoor.Dig Go.Proofs.YtakjcihjkagnfaaDoor.Mp Go.Proofs.YtakjcihjkagnfaaDoorW.PrintWords Go.Proofs.YtakjcihjkagnfaaDoorW.PrintLast Go.Proofs.YtakjcihjkagnfaaDoorW.PrintMore

set_option maxRecDepth 100000 in
theorem is_dec (v : Value) (W : World) : (Instr.typeAssert (.iface 70 v) 62 70 true).run Tryd.prog W = .ok (.tuple #[v, .bool true]) W := by rfl
set_option maxRecDepth 100000 in
theorem is_ansi (v : Value) (W : World) : (Instr.typeAssert (.iface 71 v) 62 70 true).run Tryd.prog W = .ok (.tuple #[.int .i64 0, .bool false]) W := by kernel_rfl
set_option maxRecDepth 100000 in
theorem is_ansi2 (v : Value) (W : World) : (Instr.typeAssert (.iface 71 v) 62 71 true).run Tryd.prog W = .ok (.tuple #[v, .bool true]) W := by rfl
set_option maxRecDepth 100000 in
theorem meth_dec (n : Int) (w : World) : (method 273 70 (.int .i64 n) "Mode").run Tryd.prog w = .ok (91, .int .i64 n) w := by kernel_rfl
set_option maxRecDepth 100000 in
theorem meth_ansi (n : Int) (w : World) : (method 273 71 (.int .i64 n) "Mode").run Tryd.prog w = .ok (92, .int .i64 n) w := by kernel_rfl
theorem itoa_calls (n : Int) (h0 : -9223372036854775808 ≤ n) (h1 : n ≤ 9223372036854775807) (w : World) (hLD : Laid w) :
    Calls Tryd.prog 56 #[.int .i64 n] w fun e w' => e = .returned (.string (dig n)) ∧ Below w.heap.size w w' :=
  strconv_Itoa.calls n (dig n) w hLD (itoa_f n h0 h1)
theorem at_M {w : World} {A : Option Addr} {n : Nat} {xs : List S31} (h : kM.C w A n xs) (i : Int) (h0 : 0 ≤ i) (h1 : i < n) : ∃ ad, A = some ad ∧ w.cell? (ad.add i.toNat) = some (encM (rdOf z31 xs i)) :=
  ReadsOf.at_ (Kd.reads_of_C (enc := encM) (d := z31) (h1 := fun _ => rfl) h) i h0 h1
def InM (l : List S31) : Prop := ∀ s ∈ l, -9223372036854775808 ≤ s.f1 ∧ s.f1 ≤ 9223372036854775807
/-- The numbers of one kind, as texts. -/
def kin (b : Bool) (l : List S31) : List ByteArray := (l.filter (fun s => s.f0 == b)).map (fun s => dig s.f1)
theorem kin_snoc (b : Bool) (l : List S31) (s : S31) : kin b (l ++ [s]) = kin b l ++ (if s.f0 = b then [dig s.f1] else []) := by
  unfold kin
  rw [List.filter_append, List.map_append]
  congr 1
  by_cases h : s.f0 = b
  · rw [if_pos h]
    simp [h]
  · rw [if_neg h]
    simp [h]
theorem kin_len (b : Bool) (l : List S31) : (kin b l).length ≤ l.length := by
  unfold kin
  rw [List.length_map]
  exact List.length_filter_le _ _
theorem kin_sizes {l : List S31} (h : InM l) (b : Bool) : ∀ s ∈ kin b l, s.size ≤ 21 := by
  intro s hs
  obtain ⟨x, hx, rfl⟩ := List.mem_map.1 hs
  have h2 := h x (List.mem_filter.1 hx).1
  exact dig_size x.f1 h2.1 h2.2
section
variable {P : Program} {ops : Array Oper} {rest : List Oper} {o : Oper} {a : Act} {Q : Exit → Act → World → Prop}
/-- make([]string, 0, c). -/
theorem make_room {W : World} (hgd : o.guard = none) (t e : TypeId) (x y : Operand) (ho : o.op = .makeSlice t x y) (c : Nat) (hx : a.eval x = .int .i64 0) (hy : a.eval y = .int .i64 (c : Int))
    (ht : P.underlying t = some (.slice e)) (hinfo : (P.info? e).map (fun i => (i.zero, i.size, i.bytes)) = some (some (.string ⟨#[]⟩), 1, 16)) (hc : c ≤ 1000000)
    (h : ∀ v1 w1, Kd.R Kd.string e w1 W.heap.size (fun _ => True) v1 [] → Below W.heap.size W w1 → wpList P ops Q rest (a.put o.dst v1) w1) : wpList P ops Q (o :: rest) a W := by
  obtain ⟨i0, hi, hzz⟩ := Option.map_eq_some_iff.1 hinfo
  simp only [Prod.mk.injEq] at hzz
  obtain ⟨hz0, hz1, hz2⟩ := hzz
  obtain ⟨w', hr, hown, hg⟩ := run_make_own (P := P) W W.heap.size t e i0 _ 1 ht hi hz0 hz1 .i64 .i64 c (by rw [hz2]; omega) (by simp only [maxLen]; omega) (Nat.le_refl _)
  have hR : Kd.R Kd.string e w' W.heap.size (fun _ => True) (.slice (some ⟨W.heap.size, 0, none⟩) 0 c) [] := Kd.R_of_own (enc := Value.string) (h1 := fun _ => rfl) hown (fun _ _ => trivial)
  have hb : Below W.heap.size W w' := (Below.refl _ _).grown hg (Nat.le_refl _) (fun k hk => by cases hk)
  exact Kd.event_run hgd (by simp [execOp, ho, hx, hy, hr]) (h _ _ hR hb)
end
/-- What setMode makes. -/
def cmdT (r : Bool) : ByteArray := if r = true then ⟨#[108]⟩ else ⟨#[104]⟩
def setT (r : Bool) (l : List S31) : ByteArray :=
  match l with
  | [] => ⟨#[]⟩
  | [s] => ((if s.f0 = true then (⟨#[27, 91]⟩ : ByteArray) ++ ⟨#[63]⟩ else ⟨#[27, 91]⟩) ++ dig s.f1) ++ cmdT r
  | l => (if 0 < (kin true l).length then (if 0 < (kin false l).length then (⟨#[]⟩ : ByteArray) ++ (((⟨#[27, 91]⟩ : ByteArray) ++ join ⟨#[59]⟩ (kin false l)) ++ cmdT r) else ⟨#[]⟩) ++ ((((⟨#[27, 91]⟩ : ByteArray) ++ ⟨#[63]⟩) ++ join ⟨#[59]⟩ (kin true l)) ++ cmdT r)
      else (if 0 < (kin false l).length then (⟨#[]⟩ : ByteArray) ++ (((⟨#[27, 91]⟩ : ByteArray) ++ join ⟨#[59]⟩ (kin false l)) ++ cmdT r) else ⟨#[]⟩))

theorem setT_many (r : Bool) (l : List S31) (h : 2 ≤ l.length) : setT r l =
    (if 0 < (kin true l).length then (if 0 < (kin false l).length then (⟨#[]⟩ : ByteArray) ++ (((⟨#[27, 91]⟩ : ByteArray) ++ join ⟨#[59]⟩ (kin false l)) ++ cmdT r) else ⟨#[]⟩) ++ ((((⟨#[27, 91]⟩ : ByteArray) ++ ⟨#[63]⟩) ++ join ⟨#[59]⟩ (kin true l)) ++ cmdT r)
      else (if 0 < (kin false l).length then (⟨#[]⟩ : ByteArray) ++ (((⟨#[27, 91]⟩ : ByteArray) ++ join ⟨#[59]⟩ (kin false l)) ++ cmdT r) else ⟨#[]⟩)) := by
  cases l with
  | nil => simp at h
  | cons x l =>
    cases l with
    | nil => simp at h
    | cons y l => rfl
theorem info9' : (Tryd.prog.info? 9).map (fun i => (i.zero, i.size, i.bytes)) = some (some (.string ⟨#[]⟩), 1, 16) := by kernel_rfl
theorem take_at2 (l : List S31) (k : Nat) (hk : k < l.length) : l.take (k + 1) = l.take k ++ [rdOf z31 l (k : Int)] := by
  show _ = _ ++ [l.getD (k : Int).toNat z31]
  rw [Int.toNat_natCast, List.getD_eq_getElem?_getD, List.take_add_one, List.getElem?_eq_getElem hk]
  rfl
theorem rd_mem (l : List S31) (k : Nat) (hk : k < l.length) : rdOf z31 l (k : Int) ∈ l := by
  show l.getD (k : Int).toNat z31 ∈ l
  rw [Int.toNat_natCast, List.getD_eq_getElem?_getD, List.getElem?_eq_getElem hk]
  exact List.getElem_mem hk

set_option maxHeartbeats 8000000 in
set_option maxRecDepth 100000 in
theorem setMode_many (r : Bool) (A0 : Option Addr) (c0 : Nat) (l : List S31) (w : World) (hr0 : Kd.C kM w A0 l.length l) (hl : l.length ≤ 100) (hl2 : 2 ≤ l.length) (hin : InM l) (hLD : Laid w) :
    Calls Tryd.prog 54 #[.bool r, .slice A0 l.length c0] w fun e w' => e = .returned (.string (setT r l)) ∧ Below w.heap.size w w' := by
  have HR0 := Aside0.mk hr0
  have HIN := Aside0.mk hin
  have HL := Lib.hid hLD
  have HT := Aside0.mk (setT_many r l hl2)
  obtain ⟨T, hT⟩ : ∃ T, T = setT r l := ⟨_, rfl⟩
  rw [← hT] at HT ⊢
  clear hr0 hin hLD hT
  obtain ⟨L, hL⟩ : ∃ L, L = l.length := ⟨_, rfl⟩
  have HLL := Aside0.mk hL
  have HL2 := Aside0.mk (show 2 ≤ L ∧ L ≤ 100 by omega)
  have t0 : ((L : Int) == 0) = false := by simp; omega
  have t1 : ((L : Int) == 1) = false := by simp; omega
  rw [← hL]
  clear hL hl hl2
  have ta := is_dec
  have tb := is_ansi
  have tc := is_ansi2
  have hm1 := meth_dec
  have hm2 := meth_ansi
  obtain ⟨q, hqd⟩ : ∃ q : Nat, q = L / 2 := ⟨L / 2, rfl⟩
  have hq : (L : Int).tdiv 2 = (q : Int) := by
    rw [Int.tdiv_eq_ediv_of_nonneg (by omega)]
    omega
  have hwq : wrap64 (q : Int) = (q : Int) := by
    have := HL2.out
    unfold wrap64
    omega
  have HQ := Aside0.mk (show q ≤ 1000000 by have := HL2.out; omega)
  have HIT := Aside0.mk (fun (n : Int) (h : -9223372036854775808 ≤ n ∧ n ≤ 9223372036854775807) (W : World) (hb : Below w.heap.size w W) => itoa_calls n h.1 h.2 W (HL.out.below hb))
  have HJ0 := Aside0.mk (show ∀ b, (kin b l).length ≤ 200 ∧ (∀ s ∈ kin b l, s.size ≤ 21) from fun b => ⟨by have := kin_len b l; have := HLL.out; have := HL2.out; omega, kin_sizes HIN.out b⟩)
  obtain ⟨ja, hja⟩ : ∃ j, j = join ⟨#[59]⟩ (kin false l) := ⟨_, rfl⟩
  obtain ⟨jd, hjd⟩ : ∃ j, j = join ⟨#[59]⟩ (kin true l) := ⟨_, rfl⟩
  have HJA := Aside0.mk (show xansi_zzJoin.f 300 (kin false l) ⟨#[59]⟩ = some ja by rw [hja]; exact joined' _ _ (HJ0.out false).1 (HJ0.out false).2 rfl 300 (by omega))
  have HJD := Aside0.mk (show xansi_zzJoin.f 300 (kin true l) ⟨#[59]⟩ = some jd by rw [hjd]; exact joined' _ _ (HJ0.out true).1 (HJ0.out true).2 rfl 300 (by omega))
  have sja : ja.size ≤ 4400 := by
    have h1 := join_size ⟨#[59]⟩ rfl _ (HJ0.out false).2
    have h2 := (HJ0.out false).1
    rw [hja]
    omega
  have sjd : jd.size ≤ 4400 := by
    have h1 := join_size ⟨#[59]⟩ rfl _ (HJ0.out true).2
    have h2 := (HJ0.out true).1
    rw [hjd]
    omega
  rw [← hja, ← hjd] at HT
  clear hqd hja hjd HL
  cases r <;> go_enter Tryd.func54, Tryd.ntmps54
  all_goals
    go_wp2_with (first | ((with_reducible refine gate_dst (N := 39) rfl ?_); refine make_room rfl 54 9 (.const (.int .i64 0)) (.tmp 38) rfl q ?hx ?hy Tryd.underlying54 info9' HQ.out ?_; (case hx => rfl); (case hy => (try simp only [hwq]); rfl); intro vd0 wd0 hr_ hb_; have HD0 := Aside0.mk hr_; have HB0 := Aside0.mk hb_; clear hr_ hb_) | ((with_reducible refine gate_dst (N := 43) rfl ?_); refine make_room rfl 54 9 (.const (.int .i64 0)) (.tmp 42) rfl q ?hx ?hy Tryd.underlying54 info9' HQ.out ?_; (case hx => rfl); (case hy => (try simp only [hwq]); rfl); intro va0 wa0 hr_ hb_; have HA0 := Aside0.mk hr_; have HB1 := Aside0.mk hb_; clear hr_ hb_) | fail)
    have HB2 := Aside0.mk (below_step HB0.out HB1.out)
    have HD1 := Aside0.mk (Kd.R_below HD0.out HB1.out)
    have HA1 := Aside0.mk (Kd.R_lower HA0.out (below_size HB0.out))
    have HS1 := Aside0.mk (show ∀ k, vd0.ownBlock = some k → some k ≠ va0.ownBlock from fun k hk e => by
      have h1 := Kd.R_lt HD0.out k hk
      have h2 := Kd.R_base HA0.out k e.symm
      omega)
    clear HD0 HB0 HA0 HB1
    go_loopw [7, 8, 46] (fun v7 v8 v46 wr => ∃ (J : Int) (k : Nat), v46 = .int .i64 J ∧ Aside0 (J = (k : Int)) ∧ Aside0 (k ≤ L) ∧ Aside0 (Kd.R Kd.string 9 wr w.heap.size (fun _ => True) v7 (kin true (l.take k))) ∧ Aside0 (Kd.R Kd.string 9 wr w.heap.size (fun _ => True) v8 (kin false (l.take k))) ∧ Aside0 (∀ k, v7.ownBlock = some k → some k ≠ v8.ownBlock) ∧ Aside0 (Below w.heap.size w wr)) (fun _ _ v46 _ => L - (intOf v46).toNat)
    case atStart => exact ⟨0, 0, rfl, ⟨rfl⟩, ⟨Nat.zero_le _⟩, HD1, HA1, HS1, HB2⟩
    case round =>
      clear HD1 HA1 HS1 HB2
      obtain ⟨J, k, rfl, HJ, HK, HD, HA, HS, HB⟩ := hrel
      by_cases hlt : k < L
      · have hj := HJ.out
        have tlt : decide (J < (L : Int)) = true := decide_eq_true (by omega)
        have p0 : 0 ≤ J := by omega
        have q0 : J < (L : Int) := by omega
        have hwr : wrap64 (J + 1) = J + 1 := by have := HL2.out; unfold wrap64; omega
        obtain ⟨ad, e0, hx⟩ := at_M HR0.out J p0 (by have := HLL.out; omega)
        cases e0
        replace hx := (HB.out.cell (World.block_lt_of_cell? w _ hx)).trans hx
        have hkl : k < l.length := by have := HLL.out; omega
        have htk := take_at2 l k hkl
        have hmem := rd_mem l k hkl
        rw [← hj] at htk hmem
        obtain ⟨s, hs⟩ : ∃ s, s = rdOf z31 l J := ⟨_, rfl⟩
        rw [← hs] at hx htk hmem
        obtain ⟨b, n⟩ := s
        have HN := Aside0.mk (HIN.out _ hmem)
        have hds := dig_size n HN.out.1 HN.out.2
        obtain ⟨y, hy⟩ : ∃ y, y = kin true (l.take k) := ⟨_, rfl⟩
        obtain ⟨z, hz⟩ : ∃ z, z = kin false (l.take k) := ⟨_, rfl⟩
        rw [← hy] at HD
        rw [← hz] at HA
        have HYL := Aside0.mk (show y.length ≤ 100 ∧ z.length ≤ 100 by
          have h1 := kin_len true (l.take k)
          have h2 := kin_len false (l.take k)
          rw [List.length_take] at h1 h2
          rw [hy, hz]
          have := HL2.out
          omega)
        have HY2 := Aside0.mk (show kin true (l.take (k + 1)) = y ++ (if b = true then [dig n] else []) ∧ kin false (l.take (k + 1)) = z ++ (if b = false then [dig n] else []) by
          rw [htk, kin_snoc, kin_snoc, hy, hz]
          exact ⟨rfl, rfl⟩)
        clear hj hs hkl htk hmem hy hz
        replace p0 := eq_true p0
        replace q0 := eq_true q0
        cases b with
        | true =>
          replace hx : wr.cell? (ad.add J.toNat) = some (.iface 70 (.int .i64 n)) := hx
          go_wp2_with fail
          refine (mode_dec n _).mono ?_
          rintro e w5 ⟨rfl, rfl⟩
          go_wp2_with fail
          refine (HIT.out n HN.out _ HB.out).mono ?_
          rintro e w6 ⟨rfl, hb6⟩
          have HD6 := Aside0.mk (Kd.R_below HD.out hb6)
          have HA6 := Aside0.mk (Kd.R_below HA.out hb6)
          have HB6 := Aside0.mk (below_step HB.out hb6)
          clear hb6 hx HD HA HB
          go_wp2_with (first | ((with_reducible refine gate_builtin (b := .append) (xs := #[.tmp 54, .tmp 58]) rfl ?_); at_builtin; refine Kd.R_append Kd.string (w0 := w) w.heap.size rfl (.tmp 54) (.tmp 58) 54 9 (.string ⟨#[]⟩) 16 rfl Tryd.underlying54 info9' rfl (by decide) (by omega) u7 y (dig n) [.string (dig n)] (fun _ => True) (fun _ => False) rfl rfl ?aP (fun _ hk => hk.elim) ?aF ?aO ?aB ?aS ?aL ?_; (case aP => exact rfl); (case aB => exact HB6.out); (case aF => exact (fun _ _ => trivial)); (case aO => exact HD6.out); (case aS => exact (below_size HB6.out)); (case aL => have := HYL.out; omega); intro v1 w1 ho hb hg hat; have HO1 := Aside0.mk (show Kd.R Kd.string 9 w1 w.heap.size (fun _ => True) v1 (kin true (l.take (k + 1))) by rw [HY2.out.1]; exact ho); have HA7 := Aside0.mk (show Kd.R Kd.string 9 w1 w.heap.size (fun _ => True) u8 (kin false (l.take (k + 1))) by (rw [HY2.out.2]; exact (by rw [if_neg (by decide), List.append_nil]; exact Kd.R_grown2 HA6.out rfl hg HS.out))); have HS7 := Aside0.mk (show ∀ k, v1.ownBlock = some k → some k ≠ u8.ownBlock from fun k hk e => (by rcases hat with e1 | ⟨b_, e1, hlt_⟩; (· rw [e1] at hk; exact HS.out k hk e); (· rw [hk] at e1; (obtain rfl := Option.some.inj e1); (have := Kd.R_lt HA6.out k e.symm); omega))); have HB1 := Aside0.mk hb; clear ho hb hg hat HD6 HA6) | fail)
          go_roundw
          case rel => exact ⟨wrap64 (J + 1), k + 1, rfl, ⟨by rw [hwr, HJ.out]; rfl⟩, ⟨hlt⟩, HO1, HA7, HS7, HB1⟩
          case measure =>
            have := HJ.out
            rw [hwr]
            simp [intOf]
            omega
        | false =>
          replace hx : wr.cell? (ad.add J.toNat) = some (.iface 71 (.int .i64 n)) := hx
          go_wp2_with fail
          refine (mode_ansi n _).mono ?_
          rintro e w5 ⟨rfl, rfl⟩
          go_wp2_with fail
          refine (HIT.out n HN.out _ HB.out).mono ?_
          rintro e w6 ⟨rfl, hb6⟩
          have HD6 := Aside0.mk (Kd.R_below HD.out hb6)
          have HA6 := Aside0.mk (Kd.R_below HA.out hb6)
          have HB6 := Aside0.mk (below_step HB.out hb6)
          clear hb6 hx HD HA HB
          go_wp2_with (first | ((with_reducible refine gate_builtin (b := .append) (xs := #[.tmp 63, .tmp 67]) rfl ?_); at_builtin; refine Kd.R_append Kd.string (w0 := w) w.heap.size rfl (.tmp 63) (.tmp 67) 54 9 (.string ⟨#[]⟩) 16 rfl Tryd.underlying54 info9' rfl (by decide) (by omega) u8 z (dig n) [.string (dig n)] (fun _ => True) (fun _ => False) rfl rfl ?aP (fun _ hk => hk.elim) ?aF ?aO ?aB ?aS ?aL ?_; (case aP => exact rfl); (case aB => exact HB6.out); (case aF => exact (fun _ _ => trivial)); (case aO => exact HA6.out); (case aS => exact (below_size HB6.out)); (case aL => have := HYL.out; omega); intro v1 w1 ho hb hg hat; have HO1 := Aside0.mk (show Kd.R Kd.string 9 w1 w.heap.size (fun _ => True) v1 (kin false (l.take (k + 1))) by rw [HY2.out.2]; exact ho); have HA7 := Aside0.mk (show Kd.R Kd.string 9 w1 w.heap.size (fun _ => True) u7 (kin true (l.take (k + 1))) by (rw [HY2.out.1]; exact (by rw [if_neg (by decide), List.append_nil]; exact Kd.R_grown2 HD6.out rfl hg (fun k hk e => HS.out k e.symm hk.symm)))); have HS7 := Aside0.mk (show ∀ k, u7.ownBlock = some k → some k ≠ v1.ownBlock from fun k hk e => (by rcases hat with e1 | ⟨b_, e1, hlt_⟩; (· rw [e1] at e; exact HS.out k hk e); (· rw [e1] at e; (obtain rfl := Option.some.inj e); (have := Kd.R_lt HD6.out k hk); omega))); have HB1 := Aside0.mk hb; clear ho hb hg hat HD6 HA6) | fail)
          go_roundw
          case rel => exact ⟨wrap64 (J + 1), k + 1, rfl, ⟨by rw [hwr, HJ.out]; rfl⟩, ⟨hlt⟩, HA7, HO1, HS7, HB1⟩
          case measure =>
            have := HJ.out
            rw [hwr]
            simp [intOf]
            omega
      · have tlt : decide (J < (L : Int)) = false := decide_eq_false (by have := HJ.out; omega)
        have hk : k = L := by have := HK.out; omega
        rw [hk, HLL.out, List.take_length] at HD HA
        clear hk hlt HJ HK
        obtain ⟨Aa, ca, ea⟩ := Kd.R_slice HA.out
        obtain ⟨Ad, cd, ed⟩ := Kd.R_slice HD.out
        subst ea ed
        have RA := Kd.R_reads' HA.out
        have RD := Kd.R_reads' HD.out
        obtain ⟨na, hna⟩ : ∃ n, n = (kin false l).length := ⟨_, rfl⟩
        obtain ⟨nd, hnd⟩ : ∃ n, n = (kin true l).length := ⟨_, rfl⟩
        have HZA := Aside0.mk (show ∀ W, Below wr.heap.size wr W → Calls Tryd.prog 57 #[.slice Aa na ca, .string ⟨#[59]⟩] W fun e w' => e = .returned (.string ja) ∧ Drawn0 W w' from fun W hb => by
          have h_ := xansi_zzJoin.calls 300 Aa ca (kin false l) ⟨#[59]⟩ ja W (Kd.C_below RA.2.2 hb) RA.2.1 HJA.out
          rw [← hna] at h_
          exact h_)
        have HZD := Aside0.mk (show ∀ W, Below wr.heap.size wr W → Calls Tryd.prog 57 #[.slice Ad nd cd, .string ⟨#[59]⟩] W fun e w' => e = .returned (.string jd) ∧ Drawn0 W w' from fun W hb => by
          have h_ := xansi_zzJoin.calls 300 Ad cd (kin true l) ⟨#[59]⟩ jd W (Kd.C_below RD.2.2 hb) RD.2.1 HJD.out
          rw [← hnd] at h_
          exact h_)
        rw [← hna, ← hnd] at HT
        rw [← hna, ← hnd]
        clear RA RD hna hnd HA HD
        by_cases ha : 0 < na
        · have tna : decide ((0 : Int) < (na : Int)) = true := decide_eq_true (by omega)
          rw [if_pos ha] at HT
          go_wp2_with fail
          refine (HZA.out _ (Below.refl _ _)).mono ?_
          rintro e w8 ⟨rfl, hd8⟩
          have HB8 := Aside0.mk (hd8.below)
          clear hd8
          by_cases hd : 0 < nd
          · have tnd : decide ((0 : Int) < (nd : Int)) = true := decide_eq_true (by omega)
            rw [if_pos hd] at HT
            go_wp2_with fail
            refine (HZD.out _ HB8.out).mono ?_
            rintro e w9 ⟨rfl, hd9⟩
            have HB9 := Aside0.mk (below_step HB.out (below_step HB8.out hd9.below))
            clear hd9
            go_wp2
            go_ret
            exact ⟨by rw [HT.out]; rfl, HB9.out⟩
          · rw [if_neg hd] at HT
            obtain rfl : nd = 0 := by omega
            have tnd : decide ((0 : Int) < ((0 : Nat) : Int)) = false := rfl
            clear hd
            have HB9 := Aside0.mk (below_step HB.out HB8.out)
            go_wp2
            go_ret
            exact ⟨by rw [HT.out]; rfl, HB9.out⟩
        · rw [if_neg ha] at HT
          obtain rfl : na = 0 := by omega
          have tna : decide ((0 : Int) < ((0 : Nat) : Int)) = false := rfl
          clear ha
          by_cases hd : 0 < nd
          · have tnd : decide ((0 : Int) < (nd : Int)) = true := decide_eq_true (by omega)
            rw [if_pos hd] at HT
            go_wp2_with fail
            refine (HZD.out _ (Below.refl _ _)).mono ?_
            rintro e w9 ⟨rfl, hd9⟩
            have HB9 := Aside0.mk (below_step HB.out hd9.below)
            clear hd9
            go_wp2
            go_ret
            exact ⟨by rw [HT.out]; rfl, HB9.out⟩
          · rw [if_neg hd] at HT
            obtain rfl : nd = 0 := by omega
            have tnd : decide ((0 : Int) < ((0 : Nat) : Int)) = false := rfl
            clear hd
            go_wp2
            go_ret
            exact ⟨by rw [HT.out]; rfl, HB.out⟩

end Go.Proofs.YtakjcihjkagnfaaDoor.Mo
