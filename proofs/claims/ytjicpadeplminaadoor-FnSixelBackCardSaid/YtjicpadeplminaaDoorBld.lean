/- A strings.Builder of the call's own: WriteString (reached through an interface alone, so by hand, after the kit's own proofs), String, and io.WriteString into it, in one form for the walks of this session. -/
import Derived.Test.YtjicpadeplminaaDoorOr
import Derived.Lib.Strings
import Derived.Lib.Slices
import Derived.Lib.Walk
import Derived.Lib.Builder
import Derived.Lib.BufferWrite
import Derived.Lib.AppendStr
import Derived.Lib.UnsafeStr
import Derived.Lib.MakeNoZero
import Derived.Lib.Hide
import Derived.Lib.ItoaLen
import Derived.WalkKit
import Derived.KernelRfl
import Derived.Laws.Externs
import Derived.Laws.IdiomCopy
namespace Go.Proofs.YtjicpadeplminaaDoor.Bld
open Go Go.RowKit Go.Proofs.YtjicpadeplminaaDoor.Or

theorem info48 : ∃ j, Tryd.prog.info? 48 = some j ∧ j.size = 2 := by
  have h : (Tryd.prog.info? 48).map (fun i => i.size) = some 2 := by kernel_rfl
  obtain ⟨j, hj, hs⟩ := Option.map_eq_some_iff.1 h
  exact ⟨j, hj, hs⟩
theorem infoByte : (Tryd.prog.info? 5).map (fun i => (i.zero, i.size, i.bytes)) = some (some (.int .u8 0), 1, 1) := by kernel_rfl

set_option maxHeartbeats 1000000 in
set_option maxRecDepth 100000 in
theorem check_used (b : Nat) (w : World) (h0 : w.cell? ⟨b, 0, none⟩ = some (.pointer (some ⟨b, 0, none⟩))) :
    Calls Tryd.prog 63 #[.pointer (some ⟨b, 0, none⟩)] w fun e w' => e = .returned (.tuple #[]) ∧ w' = w := by
  obtain ⟨j, hj, _⟩ := info48
  go_enter Tryd.func63, Tryd.ntmps63
  go_wp2
  rw [Lib.run_neq_ptr_same w _ Tryd.underlying46 hj]
  go_wp2
  go_end0
  exact ⟨rfl, rfl⟩

set_option maxHeartbeats 1000000 in
set_option maxRecDepth 100000 in
theorem check_fresh (b : Nat) (w : World) (h0 : w.cell? ⟨b, 0, none⟩ = some (.pointer none)) (hsh : w.shape? b = some (48, 2)) (hfz : w.frozen? ⟨b, 0, none⟩ = false) :
    Calls Tryd.prog 63 #[.pointer (some ⟨b, 0, none⟩)] w fun e w' => e = .returned (.tuple #[]) ∧ w' = w.setCell ⟨b, 0, none⟩ (.pointer (some ⟨b, 0, none⟩)) := by
  obtain ⟨j, hj, hjs⟩ := info48
  go_enter Tryd.func63, Tryd.ntmps63
  go_wp2
  rw [Lib.run_to_unsafe w ⟨b, 0, none⟩ Tryd.underlying46 Tryd.underlying113 hj (by rw [hjs]; decide) hsh (Nat.zero_lt_succ 1)]
  simp only [Result.andThen]
  rw [Oper.upon_value]
  go_wp2
  rw [run_callFunc_extern Tryd.func64 (by kernel_rfl) (by kernel_rfl) (by kernel_rfl) (e := Extern.AbiNoEscape.same) (by kernel_rfl)]
  rw [Lib.run_noEscape]
  simp only [Result.andThen]
  rw [Oper.upon_value]
  go_wp2
  rw [Lib.run_from_unsafe w ⟨b, 0, none⟩ Tryd.underlying113 Tryd.underlying46 hj hsh (by kernel_rfl)]
  simp only [Result.andThen]
  rw [Oper.upon_value]
  go_wp2
  go_end0
  exact ⟨rfl, rfl⟩

theorem check (B b : Nat) (bs : List Value) (w : World) (h : Lib.IsBuilder 48 5 B b bs w) :
    Calls Tryd.prog 63 #[.pointer (some ⟨b, 0, none⟩)] w fun e w' => e = .returned (.tuple #[]) ∧ (Lib.BuilderAt 48 5 B b (.pointer (some ⟨b, 0, none⟩)) bs w' ∧ Below B w w') := by
  rcases h with h | h
  · refine (check_fresh b w h.cell0 h.shape h.frozen0).mono ?_
    rintro e w' ⟨rfl, rfl⟩
    exact ⟨rfl, h.used _, (Below.refl B w).setCell (p := ⟨b, 0, none⟩) h.1 _⟩
  · refine (check_used b w h.cell0).mono ?_
    rintro e w' ⟨rfl, rfl⟩
    exact ⟨rfl, h, Below.refl B _⟩

set_option maxHeartbeats 2000000 in
set_option maxRecDepth 100000 in
theorem writeString (B b : Nat) (bs : List Value) (s : ByteArray) (w : World) (h : Lib.IsBuilder 48 5 B b bs w) (hlen : bs.length + s.size ≤ 140737488355328) (hBw : B ≤ w.heap.size) :
    Calls Tryd.prog 62 #[.pointer (some ⟨b, 0, none⟩), .string s] w fun e w' => e = .returned (.tuple #[.int .i64 s.size, .nilIface]) ∧ (Lib.BuilderAt 48 5 B b (.pointer (some ⟨b, 0, none⟩)) (bs ++ Lib.strCells s) w' ∧ Below B w w') := by
  obtain ⟨i0, hi, hz0, hz1, hz2⟩ := info_parts infoByte
  go_enter Tryd.func62, Tryd.ntmps62
  go_wp2_with (go_at_call 63; refine (check B b bs _ h).mono ?_)
  rintro e w1 ⟨rfl, h1, hb1⟩
  obtain ⟨hB, v, hbk, hown, hne⟩ := h1
  have c0 : w1.cell? ⟨b, 0, none⟩ = some (.pointer (some ⟨b, 0, none⟩)) := by rw [Lib.cell_of_heap hbk]; rfl
  have c1 : w1.cell? ⟨b, 1, none⟩ = some v := by rw [Lib.cell_of_heap hbk]; rfl
  go_wp2_with (at_builtin; refine Lib.wpList_append_own_string _ rfl _ _ 30 9 rfl B 5 i0 Tryd.underlying30 Tryd.underlying9 hi hz0 hz1 hz2 _ _ _ rfl hown s rfl ?c3 ?c4 ?c5 ?_)
  case c3 => unfold maxLen; omega
  case c4 => omega
  case c5 => have := hb1.size; omega
  intro v' w2 hown' hgrow _
  have hlt : b < w1.heap.size := by
    rcases Nat.lt_or_ge b w1.heap.size with h' | h'
    · exact h'
    · simp [Array.getElem?_eq_none h'] at hbk
  have hb2 : w2.heap[b]? = some (.cells #[.pointer (some ⟨b, 0, none⟩), v] 48 (0, 0)) := by
    rw [hgrow.block b hlt (fun e => hne e.symm)]
    exact hbk
  have d0 : w2.cell? ⟨b, 0, none⟩ = some (.pointer (some ⟨b, 0, none⟩)) := by rw [Lib.cell_of_heap hb2]; rfl
  have d1 : w2.cell? ⟨b, 1, none⟩ = some v := by rw [Lib.cell_of_heap hb2]; rfl
  have f1 : w2.frozen? ⟨b, 1, none⟩ = false := Lib.frozen_of_heap hb2 1
  obtain ⟨ao, n', cap, rfl⟩ : ∃ ao n' cap, v' = .slice ao n' cap := by
    rcases hown'.2 with ⟨hv, _⟩ | ⟨g, cap, cur, hv, _⟩
    · exact ⟨_, _, _, hv⟩
    · exact ⟨_, _, _, hv⟩
  go_wp2
  go_ret2
  refine ⟨rfl, ?_, ?_⟩
  · exact Lib.BuilderAt.put (T := 48) (e := 5) hB hb2 (bs' := bs ++ Lib.strCells s) (by simpa [Lib.strCells_length] using hown') (by decide)
  · exact (hb1.grown hgrow (by have := hb1.size; omega) (fun k hk => (hown.lt k hk).1)).setCell (p := ⟨b, 1, none⟩) hB _

/-- The builder that the call laid first holds the text s, and of what was there nothing has turned. -/
def Bld (w0 : World) (s : ByteArray) (w : World) : Prop := Lib.IsBuilder 48 5 w0.heap.size w0.heap.size (Lib.byteCells s.data.toList) w ∧ Below w0.heap.size w0 w

theorem fresh (w0 : World) : Bld w0 ByteArray.empty (w0.alloc (.cells #[.pointer none, .slice none 0 0] 48)) :=
  ⟨by simpa [Lib.byteCells] using Lib.fresh_isBuilder 48 5 w0, (Below.refl _ w0).alloc (Nat.le_refl _) _⟩

theorem ws (w0 : World) (s t : ByteArray) (w : World) (h : Bld w0 s w) (hlim : s.size + t.size ≤ 140737488355328) :
    Calls Tryd.prog 62 #[.pointer (some ⟨w0.heap.size, 0, none⟩), .string t] w fun e w' => e = .returned (.tuple #[.int .i64 t.size, .nilIface]) ∧ Bld w0 (s ++ t) w' := by
  refine (writeString w0.heap.size w0.heap.size _ t w h.1 (by rw [Lib.byteCells_length, ← Lib.size_eq]; exact hlim) h.2.size).mono ?_
  rintro e w' ⟨rfl, h1, b1⟩
  refine ⟨rfl, Or.inr ?_, h.2.trans b1⟩
  have e1 : (s ++ t).data.toList = s.data.toList ++ t.data.toList := by simp [ByteArray.data_append]
  rw [e1, Lib.byteCells_append]
  exact h1

theorem str (w0 : World) (s : ByteArray) (w : World) (h : Bld w0 s w) :
    Calls Tryd.prog 19 #[.pointer (some ⟨w0.heap.size, 0, none⟩)] w fun e w' => e = .returned (.string s) ∧ Below w0.heap.size w0 w' := by
  refine (Tryd.Builder_String_any w0.heap.size w0.heap.size _ w h.1 h.2.size).mono ?_
  rintro e w' ⟨rfl, b1⟩
  exact ⟨by simp, h.2.trans b1⟩
theorem at_old {T e : TypeId} {B b : Nat} {p : Value} {bs : List Value} {w w' : World} (h : Lib.BuilderAt T e B b p bs w) (hb : Below w.heap.size w w') : Lib.BuilderAt T e B b p bs w' := by
  obtain ⟨hB, v, hbk, hown, hne⟩ := h
  refine ⟨hB, v, (hb.block b (lt_of_block hbk)).trans hbk, ⟨hown.1, ?_⟩, hne⟩
  rcases hown.2 with hn | ⟨g, cap, cur, hv, hbg, hg, rest⟩
  · exact .inl hn
  · exact .inr ⟨g, cap, cur, hv, hbg, (hb.block g (lt_of_block hg)).trans hg, rest⟩
theorem Bld.old {w0 w w' : World} {s : ByteArray} (h : Bld w0 s w) (hb : Below w.heap.size w w') : Bld w0 s w' :=
  ⟨h.1.elim (fun h1 => .inl (at_old h1 hb)) (fun h1 => .inr (at_old h1 hb)), h.2.trans (hb.mono h.2.size)⟩
set_option maxRecDepth 100000 in
theorem is_sw (v : Value) (W : World) : (Instr.typeAssert (.iface 46 v) 71 79 true).run Tryd.prog W = .ok (.tuple #[.iface 46 v, .bool true]) W := by kernel_rfl
set_option maxRecDepth 100000 in
theorem meth_ws (a : Addr) (w : World) : (method 215 46 (.pointer (some a)) "WriteString").run Tryd.prog w = .ok (62, .pointer (some a)) w := by kernel_rfl
set_option maxHeartbeats 8000000 in
set_option maxRecDepth 100000 in
theorem io (w0 : World) (s t : ByteArray) (w : World) (h : Bld w0 s w) (hlim : s.size + t.size ≤ 140737488355328) :
    Calls Tryd.prog 28 #[.iface 46 (.pointer (some ⟨w0.heap.size, 0, none⟩)), .string t] w fun e w' => e = .returned (.tuple #[.int .i64 t.size, .nilIface]) ∧ Bld w0 (s ++ t) w' := by
  have ta := is_sw
  have hm := meth_ws
  have HQ := Lib.hid (ws w0 s t w h hlim)
  clear h
  go_enter Tryd.func28, Tryd.ntmps28
  go_wp2_with (go_at_call 62; refine HQ.out.mono ?_; rintro e w' ⟨rfl, hb⟩; have HB := Lib.hid hb; clear hb)
  go_ret2
  exact ⟨rfl, HB.out⟩
def txt (l : List UInt8) : ByteArray := ⟨l.toArray⟩
def digs (n : Int) : ByteArray := ⟨(Lib.itoa n).toArray⟩
theorem digs_size (n : Int) (h0 : -9223372036854775808 ≤ n) (h1 : n ≤ 9223372036854775807) : (digs n).size ≤ 21 := by
  have := Lib.itoa_length_le n h0 h1
  show (Lib.itoa n).toArray.size ≤ 21
  simpa using this
theorem itb (w0 : World) (s : ByteArray) (n : Int) (h0 : -9223372036854775808 ≤ n) (h1 : n ≤ 9223372036854775807) (hLD : Laid w0) (w : World) (h : Bld w0 s w) :
    Calls Tryd.prog 29 #[.int .i64 n] w fun e w' => e = .returned (.string (digs n)) ∧ Bld w0 s w' := by
  refine (strconv_Itoa.calls n (digs n) w (hLD.below h.2) (by unfold strconv_Itoa.f; rw [if_pos ⟨h0, h1⟩]; rfl)).mono ?_
  rintro e w' ⟨rfl, hb⟩
  exact ⟨rfl, h.old hb⟩
theorem enc_size (x : Int) (h0 : 0 ≤ x) (h1 : x < 256) : (Utf8.encode x).size ≤ 2 := by
  obtain ⟨u, rfl⟩ := Int.eq_ofNat_of_zero_le h0
  have key : ((List.range 256).all fun u => decide ((Utf8.encode (u : Int)).size ≤ 2)) = true := by decide +kernel
  simpa using List.all_eq_true.1 key u (List.mem_range.2 (by omega))
def In (n : Int) : Prop := -9223372036854775808 ≤ n ∧ n ≤ 9223372036854775807
/-- A text is written behind what the builder holds; how many bytes, and no error. -/
def Wrote (w0 : World) (s t : ByteArray) (e : Ending) (w' : World) : Prop := ∃ k : Int, e = .returned (.tuple #[.int .i64 k, .nilIface]) ∧ Bld w0 (s ++ t) w'
instance (n : Int) : Decidable (In n) := by unfold In; infer_instance

set_option maxHeartbeats 8000000 in
set_option maxRecDepth 100000 in
theorem wrepeat (w0 : World) (s : ByteArray) (n c : Int) (i_n : In n) (c0 : 0 ≤ c) (c1 : c < 256) (hLD : Laid w0) (w : World) (h : Bld w0 s w) (hlim : s.size ≤ 1000) :
    Calls Tryd.prog 20 #[.iface 46 (.pointer (some ⟨w0.heap.size, 0, none⟩)), .int .i64 n, .int .u8 c] w (Wrote w0 s (((txt [33] ++ digs n) ++ Utf8.encode c))) := by
  have H_n := Lib.hid (fun W h => itb w0 s n i_n.1 i_n.2 hLD W h)
  have z_n := digs_size n i_n.1 i_n.2
  have z_c := enc_size c c0 c1
  have HIO := Lib.hid (fun W (h : Bld w0 s W) (t : ByteArray) (ht : t.size ≤ 200) => io w0 s t W h (by omega))
  have HB := Lib.hid h
  clear h hLD
  go_enter Tryd.func20, Tryd.ntmps20
  go_wp2_with (first | (go_at_call 29; (with_reducible refine (H_n.out _ HB.out).mono ?_); rintro e w' ⟨rfl, hb⟩; have HB2 := Lib.hid hb; clear HB hb; have HB := HB2; clear HB2) | (go_at_call 28; refine (HIO.out _ HB.out _ ?hsz).mono ?_; (case hsz => have k33 : (⟨#[33]⟩ : ByteArray).size = 1 := rfl; have k34 : (⟨#[34]⟩ : ByteArray).size = 1 := rfl; have k35 : (⟨#[35]⟩ : ByteArray).size = 1 := rfl; have k59 : (⟨#[59]⟩ : ByteArray).size = 1 := rfl; simp only [ByteArray.size_append]; omega); rintro e w' ⟨rfl, hb⟩; have HE := Lib.hid hb; clear hb))
  go_ret2
  exact ⟨_, rfl, HE.out⟩

set_option maxHeartbeats 8000000 in
set_option maxRecDepth 100000 in
theorem wraster2 (w0 : World) (s : ByteArray) (n m p q : Int) (i_n : In n) (i_m : In m) (hm : m ≠ 0) (hp : p ≤ 0) (hq : q ≤ 0) (hLD : Laid w0) (w : World) (h : Bld w0 s w) (hlim : s.size ≤ 1000) :
    Calls Tryd.prog 22 #[.iface 46 (.pointer (some ⟨w0.heap.size, 0, none⟩)), .int .i64 n, .int .i64 m, .int .i64 p, .int .i64 q] w (Wrote w0 s (((txt [34] ++ digs n) ++ txt [59]) ++ digs m)) := by
  have H_n := Lib.hid (fun W h => itb w0 s n i_n.1 i_n.2 hLD W h)
  have z_n := digs_size n i_n.1 i_n.2
  have H_m := Lib.hid (fun W h => itb w0 s m i_m.1 i_m.2 hLD W h)
  have z_m := digs_size m i_m.1 i_m.2
  have tm : (m == 0) = false := by simpa using hm
  have tp : decide (p ≤ 0) = true := decide_eq_true hp
  have tq : decide (q ≤ 0) = true := decide_eq_true hq
  have HIO := Lib.hid (fun W (h : Bld w0 s W) (t : ByteArray) (ht : t.size ≤ 200) => io w0 s t W h (by omega))
  have HB := Lib.hid h
  clear h hLD
  go_enter Tryd.func22, Tryd.ntmps22
  go_wp2_with (first | (go_at_call 29; (with_reducible refine (H_n.out _ HB.out).mono ?_); rintro e w' ⟨rfl, hb⟩; have HB2 := Lib.hid hb; clear HB hb; have HB := HB2; clear HB2) | (go_at_call 29; (with_reducible refine (H_m.out _ HB.out).mono ?_); rintro e w' ⟨rfl, hb⟩; have HB2 := Lib.hid hb; clear HB hb; have HB := HB2; clear HB2) | (go_at_call 28; refine (HIO.out _ HB.out _ ?hsz).mono ?_; (case hsz => have k33 : (⟨#[33]⟩ : ByteArray).size = 1 := rfl; have k34 : (⟨#[34]⟩ : ByteArray).size = 1 := rfl; have k35 : (⟨#[35]⟩ : ByteArray).size = 1 := rfl; have k59 : (⟨#[59]⟩ : ByteArray).size = 1 := rfl; simp only [ByteArray.size_append]; omega); rintro e w' ⟨rfl, hb⟩; have HE := Lib.hid hb; clear hb))
  go_ret2
  exact ⟨_, rfl, HE.out⟩

set_option maxHeartbeats 8000000 in
set_option maxRecDepth 100000 in
theorem wraster4a (w0 : World) (s : ByteArray) (n m p q : Int) (i_n : In n) (i_m : In m) (i_p : In p) (i_q : In q) (hm : m ≠ 0) (hp : 0 < p) (hLD : Laid w0) (w : World) (h : Bld w0 s w) (hlim : s.size ≤ 1000) :
    Calls Tryd.prog 22 #[.iface 46 (.pointer (some ⟨w0.heap.size, 0, none⟩)), .int .i64 n, .int .i64 m, .int .i64 p, .int .i64 q] w (Wrote w0 s (((((((txt [34] ++ digs n) ++ txt [59]) ++ digs m) ++ txt [59]) ++ digs p) ++ txt [59]) ++ digs q)) := by
  have H_n := Lib.hid (fun W h => itb w0 s n i_n.1 i_n.2 hLD W h)
  have z_n := digs_size n i_n.1 i_n.2
  have H_m := Lib.hid (fun W h => itb w0 s m i_m.1 i_m.2 hLD W h)
  have z_m := digs_size m i_m.1 i_m.2
  have H_p := Lib.hid (fun W h => itb w0 s p i_p.1 i_p.2 hLD W h)
  have z_p := digs_size p i_p.1 i_p.2
  have H_q := Lib.hid (fun W h => itb w0 s q i_q.1 i_q.2 hLD W h)
  have z_q := digs_size q i_q.1 i_q.2
  have tm : (m == 0) = false := by simpa using hm
  have tp : decide (p ≤ 0) = false := decide_eq_false (by omega)
  have HIO := Lib.hid (fun W (h : Bld w0 s W) (t : ByteArray) (ht : t.size ≤ 200) => io w0 s t W h (by omega))
  have HB := Lib.hid h
  clear h hLD
  go_enter Tryd.func22, Tryd.ntmps22
  go_wp2_with (first | (go_at_call 29; (with_reducible refine (H_n.out _ HB.out).mono ?_); rintro e w' ⟨rfl, hb⟩; have HB2 := Lib.hid hb; clear HB hb; have HB := HB2; clear HB2) | (go_at_call 29; (with_reducible refine (H_m.out _ HB.out).mono ?_); rintro e w' ⟨rfl, hb⟩; have HB2 := Lib.hid hb; clear HB hb; have HB := HB2; clear HB2) | (go_at_call 29; (with_reducible refine (H_p.out _ HB.out).mono ?_); rintro e w' ⟨rfl, hb⟩; have HB2 := Lib.hid hb; clear HB hb; have HB := HB2; clear HB2) | (go_at_call 29; (with_reducible refine (H_q.out _ HB.out).mono ?_); rintro e w' ⟨rfl, hb⟩; have HB2 := Lib.hid hb; clear HB hb; have HB := HB2; clear HB2) | (go_at_call 28; refine (HIO.out _ HB.out _ ?hsz).mono ?_; (case hsz => have k33 : (⟨#[33]⟩ : ByteArray).size = 1 := rfl; have k34 : (⟨#[34]⟩ : ByteArray).size = 1 := rfl; have k35 : (⟨#[35]⟩ : ByteArray).size = 1 := rfl; have k59 : (⟨#[59]⟩ : ByteArray).size = 1 := rfl; simp only [ByteArray.size_append]; omega); rintro e w' ⟨rfl, hb⟩; have HE := Lib.hid hb; clear hb))
  go_ret2
  exact ⟨_, rfl, HE.out⟩

set_option maxHeartbeats 8000000 in
set_option maxRecDepth 100000 in
theorem wraster4b (w0 : World) (s : ByteArray) (n m p q : Int) (i_n : In n) (i_m : In m) (i_p : In p) (i_q : In q) (hm : m ≠ 0) (hp : p ≤ 0) (hq : 0 < q) (hLD : Laid w0) (w : World) (h : Bld w0 s w) (hlim : s.size ≤ 1000) :
    Calls Tryd.prog 22 #[.iface 46 (.pointer (some ⟨w0.heap.size, 0, none⟩)), .int .i64 n, .int .i64 m, .int .i64 p, .int .i64 q] w (Wrote w0 s (((((((txt [34] ++ digs n) ++ txt [59]) ++ digs m) ++ txt [59]) ++ digs p) ++ txt [59]) ++ digs q)) := by
  have H_n := Lib.hid (fun W h => itb w0 s n i_n.1 i_n.2 hLD W h)
  have z_n := digs_size n i_n.1 i_n.2
  have H_m := Lib.hid (fun W h => itb w0 s m i_m.1 i_m.2 hLD W h)
  have z_m := digs_size m i_m.1 i_m.2
  have H_p := Lib.hid (fun W h => itb w0 s p i_p.1 i_p.2 hLD W h)
  have z_p := digs_size p i_p.1 i_p.2
  have H_q := Lib.hid (fun W h => itb w0 s q i_q.1 i_q.2 hLD W h)
  have z_q := digs_size q i_q.1 i_q.2
  have tm : (m == 0) = false := by simpa using hm
  have tp : decide (p ≤ 0) = true := decide_eq_true hp
  have tq : decide (q ≤ 0) = false := decide_eq_false (by omega)
  have HIO := Lib.hid (fun W (h : Bld w0 s W) (t : ByteArray) (ht : t.size ≤ 200) => io w0 s t W h (by omega))
  have HB := Lib.hid h
  clear h hLD
  go_enter Tryd.func22, Tryd.ntmps22
  go_wp2_with (first | (go_at_call 29; (with_reducible refine (H_n.out _ HB.out).mono ?_); rintro e w' ⟨rfl, hb⟩; have HB2 := Lib.hid hb; clear HB hb; have HB := HB2; clear HB2) | (go_at_call 29; (with_reducible refine (H_m.out _ HB.out).mono ?_); rintro e w' ⟨rfl, hb⟩; have HB2 := Lib.hid hb; clear HB hb; have HB := HB2; clear HB2) | (go_at_call 29; (with_reducible refine (H_p.out _ HB.out).mono ?_); rintro e w' ⟨rfl, hb⟩; have HB2 := Lib.hid hb; clear HB hb; have HB := HB2; clear HB2) | (go_at_call 29; (with_reducible refine (H_q.out _ HB.out).mono ?_); rintro e w' ⟨rfl, hb⟩; have HB2 := Lib.hid hb; clear HB hb; have HB := HB2; clear HB2) | (go_at_call 28; refine (HIO.out _ HB.out _ ?hsz).mono ?_; (case hsz => have k33 : (⟨#[33]⟩ : ByteArray).size = 1 := rfl; have k34 : (⟨#[34]⟩ : ByteArray).size = 1 := rfl; have k35 : (⟨#[35]⟩ : ByteArray).size = 1 := rfl; have k59 : (⟨#[59]⟩ : ByteArray).size = 1 := rfl; simp only [ByteArray.size_append]; omega); rintro e w' ⟨rfl, hb⟩; have HE := Lib.hid hb; clear hb))
  go_ret2
  exact ⟨_, rfl, HE.out⟩

set_option maxHeartbeats 8000000 in
set_option maxRecDepth 100000 in
theorem wcolor1a (w0 : World) (s : ByteArray) (n m p q r : Int) (i_n : In n) (hm : m ≤ 0) (hLD : Laid w0) (w : World) (h : Bld w0 s w) (hlim : s.size ≤ 1000) :
    Calls Tryd.prog 18 #[.iface 46 (.pointer (some ⟨w0.heap.size, 0, none⟩)), .int .i64 n, .int .i64 m, .int .i64 p, .int .i64 q, .int .i64 r] w (Wrote w0 s (txt [35] ++ digs n)) := by
  have H_n := Lib.hid (fun W h => itb w0 s n i_n.1 i_n.2 hLD W h)
  have z_n := digs_size n i_n.1 i_n.2
  have tm : decide (m ≤ 0) = true := decide_eq_true hm
  have HIO := Lib.hid (fun W (h : Bld w0 s W) (t : ByteArray) (ht : t.size ≤ 200) => io w0 s t W h (by omega))
  have HB := Lib.hid h
  clear h hLD
  go_enter Tryd.func18, Tryd.ntmps18
  go_wp2_with (first | (go_at_call 29; (with_reducible refine (H_n.out _ HB.out).mono ?_); rintro e w' ⟨rfl, hb⟩; have HB2 := Lib.hid hb; clear HB hb; have HB := HB2; clear HB2) | (go_at_call 28; refine (HIO.out _ HB.out _ ?hsz).mono ?_; (case hsz => have k33 : (⟨#[33]⟩ : ByteArray).size = 1 := rfl; have k34 : (⟨#[34]⟩ : ByteArray).size = 1 := rfl; have k35 : (⟨#[35]⟩ : ByteArray).size = 1 := rfl; have k59 : (⟨#[59]⟩ : ByteArray).size = 1 := rfl; simp only [ByteArray.size_append]; omega); rintro e w' ⟨rfl, hb⟩; have HE := Lib.hid hb; clear hb))
  go_ret2
  exact ⟨_, rfl, HE.out⟩

set_option maxHeartbeats 8000000 in
set_option maxRecDepth 100000 in
theorem wcolor1b (w0 : World) (s : ByteArray) (n m p q r : Int) (i_n : In n) (hm : 2 < m) (hLD : Laid w0) (w : World) (h : Bld w0 s w) (hlim : s.size ≤ 1000) :
    Calls Tryd.prog 18 #[.iface 46 (.pointer (some ⟨w0.heap.size, 0, none⟩)), .int .i64 n, .int .i64 m, .int .i64 p, .int .i64 q, .int .i64 r] w (Wrote w0 s (txt [35] ++ digs n)) := by
  have H_n := Lib.hid (fun W h => itb w0 s n i_n.1 i_n.2 hLD W h)
  have z_n := digs_size n i_n.1 i_n.2
  have tm : decide (m ≤ 0) = false := decide_eq_false (by omega)
  have tn : decide (2 < m) = true := decide_eq_true hm
  have HIO := Lib.hid (fun W (h : Bld w0 s W) (t : ByteArray) (ht : t.size ≤ 200) => io w0 s t W h (by omega))
  have HB := Lib.hid h
  clear h hLD
  go_enter Tryd.func18, Tryd.ntmps18
  go_wp2_with (first | (go_at_call 29; (with_reducible refine (H_n.out _ HB.out).mono ?_); rintro e w' ⟨rfl, hb⟩; have HB2 := Lib.hid hb; clear HB hb; have HB := HB2; clear HB2) | (go_at_call 28; refine (HIO.out _ HB.out _ ?hsz).mono ?_; (case hsz => have k33 : (⟨#[33]⟩ : ByteArray).size = 1 := rfl; have k34 : (⟨#[34]⟩ : ByteArray).size = 1 := rfl; have k35 : (⟨#[35]⟩ : ByteArray).size = 1 := rfl; have k59 : (⟨#[59]⟩ : ByteArray).size = 1 := rfl; simp only [ByteArray.size_append]; omega); rintro e w' ⟨rfl, hb⟩; have HE := Lib.hid hb; clear hb))
  go_ret2
  exact ⟨_, rfl, HE.out⟩

set_option maxHeartbeats 8000000 in
set_option maxRecDepth 100000 in
theorem wcolor5 (w0 : World) (s : ByteArray) (n m p q r : Int) (i_n : In n) (i_m : In m) (i_p : In p) (i_q : In q) (i_r : In r) (hm : 0 < m) (hm2 : m ≤ 2) (hLD : Laid w0) (w : World) (h : Bld w0 s w) (hlim : s.size ≤ 1000) :
    Calls Tryd.prog 18 #[.iface 46 (.pointer (some ⟨w0.heap.size, 0, none⟩)), .int .i64 n, .int .i64 m, .int .i64 p, .int .i64 q, .int .i64 r] w (Wrote w0 s (((((((((txt [35] ++ digs n) ++ txt [59]) ++ digs m) ++ txt [59]) ++ digs p) ++ txt [59]) ++ digs q) ++ txt [59]) ++ digs r)) := by
  have H_n := Lib.hid (fun W h => itb w0 s n i_n.1 i_n.2 hLD W h)
  have z_n := digs_size n i_n.1 i_n.2
  have H_m := Lib.hid (fun W h => itb w0 s m i_m.1 i_m.2 hLD W h)
  have z_m := digs_size m i_m.1 i_m.2
  have H_p := Lib.hid (fun W h => itb w0 s p i_p.1 i_p.2 hLD W h)
  have z_p := digs_size p i_p.1 i_p.2
  have H_q := Lib.hid (fun W h => itb w0 s q i_q.1 i_q.2 hLD W h)
  have z_q := digs_size q i_q.1 i_q.2
  have H_r := Lib.hid (fun W h => itb w0 s r i_r.1 i_r.2 hLD W h)
  have z_r := digs_size r i_r.1 i_r.2
  have tm : decide (m ≤ 0) = false := decide_eq_false (by omega)
  have tn : decide (2 < m) = false := decide_eq_false (by omega)
  have HIO := Lib.hid (fun W (h : Bld w0 s W) (t : ByteArray) (ht : t.size ≤ 200) => io w0 s t W h (by omega))
  have HB := Lib.hid h
  clear h hLD
  go_enter Tryd.func18, Tryd.ntmps18
  go_wp2_with (first | (go_at_call 29; (with_reducible refine (H_n.out _ HB.out).mono ?_); rintro e w' ⟨rfl, hb⟩; have HB2 := Lib.hid hb; clear HB hb; have HB := HB2; clear HB2) | (go_at_call 29; (with_reducible refine (H_m.out _ HB.out).mono ?_); rintro e w' ⟨rfl, hb⟩; have HB2 := Lib.hid hb; clear HB hb; have HB := HB2; clear HB2) | (go_at_call 29; (with_reducible refine (H_p.out _ HB.out).mono ?_); rintro e w' ⟨rfl, hb⟩; have HB2 := Lib.hid hb; clear HB hb; have HB := HB2; clear HB2) | (go_at_call 29; (with_reducible refine (H_q.out _ HB.out).mono ?_); rintro e w' ⟨rfl, hb⟩; have HB2 := Lib.hid hb; clear HB hb; have HB := HB2; clear HB2) | (go_at_call 29; (with_reducible refine (H_r.out _ HB.out).mono ?_); rintro e w' ⟨rfl, hb⟩; have HB2 := Lib.hid hb; clear HB hb; have HB := HB2; clear HB2) | (go_at_call 28; refine (HIO.out _ HB.out _ ?hsz).mono ?_; (case hsz => have k33 : (⟨#[33]⟩ : ByteArray).size = 1 := rfl; have k34 : (⟨#[34]⟩ : ByteArray).size = 1 := rfl; have k35 : (⟨#[35]⟩ : ByteArray).size = 1 := rfl; have k59 : (⟨#[59]⟩ : ByteArray).size = 1 := rfl; simp only [ByteArray.size_append]; omega); rintro e w' ⟨rfl, hb⟩; have HE := Lib.hid hb; clear hb))
  go_ret2
  exact ⟨_, rfl, HE.out⟩

def rasB (n m p q : Int) : ByteArray := if p ≤ 0 ∧ q ≤ 0 then ((txt [34] ++ digs n) ++ txt [59]) ++ digs m else ((((((txt [34] ++ digs n) ++ txt [59]) ++ digs m) ++ txt [59]) ++ digs p) ++ txt [59]) ++ digs q
def rasT (n m p q : Int) : ByteArray := if m = 0 then rasB 1 1 p q else rasB n m p q
def colT (n m p q r : Int) : ByteArray := if m ≤ 0 ∨ 2 < m then txt [35] ++ digs n else ((((((((txt [35] ++ digs n) ++ txt [59]) ++ digs m) ++ txt [59]) ++ digs p) ++ txt [59]) ++ digs q) ++ txt [59]) ++ digs r
theorem empty_app (t : ByteArray) : ByteArray.empty ++ t = t := by apply ByteArray.ext; simp
theorem wrasB (w0 : World) (s : ByteArray) (n m p q : Int) (i_n : In n) (i_m : In m) (i_p : In p) (i_q : In q) (hm : m ≠ 0) (hLD : Laid w0) (w : World) (h : Bld w0 s w) (hlim : s.size ≤ 1000) :
    Calls Tryd.prog 22 #[.iface 46 (.pointer (some ⟨w0.heap.size, 0, none⟩)), .int .i64 n, .int .i64 m, .int .i64 p, .int .i64 q] w (Wrote w0 s (rasB n m p q)) := by
  unfold rasB
  by_cases hp : p ≤ 0
  · by_cases hq : q ≤ 0
    · rw [if_pos ⟨hp, hq⟩]
      exact wraster2 w0 s n m p q i_n i_m hm hp hq hLD w h hlim
    · rw [if_neg (fun e => hq e.2)]
      exact wraster4b w0 s n m p q i_n i_m i_p i_q hm hp (by omega) hLD w h hlim
  · rw [if_neg (fun e => hp e.1)]
    exact wraster4a w0 s n m p q i_n i_m i_p i_q hm (by omega) hLD w h hlim
set_option maxHeartbeats 8000000 in
set_option maxRecDepth 100000 in
theorem wraster (w0 : World) (s : ByteArray) (n m p q : Int) (i_n : In n) (i_m : In m) (i_p : In p) (i_q : In q) (hLD : Laid w0) (w : World) (h : Bld w0 s w) (hlim : s.size ≤ 1000) :
    Calls Tryd.prog 22 #[.iface 46 (.pointer (some ⟨w0.heap.size, 0, none⟩)), .int .i64 n, .int .i64 m, .int .i64 p, .int .i64 q] w (Wrote w0 s (rasT n m p q)) := by
  unfold rasT
  by_cases hm : m = 0
  · rw [if_pos hm]
    subst hm
    have HQ := Lib.hid (wrasB w0 s 1 1 p q (by unfold In; omega) (by unfold In; omega) i_p i_q (by omega) hLD w h hlim)
    clear h hLD
    go_enter Tryd.func22, Tryd.ntmps22
    go_wp2_with (go_at_call 22; refine HQ.out.mono ?_; rintro e w' ⟨k, rfl, hb⟩; have HB := Lib.hid hb; clear hb)
    go_ret2
    exact ⟨_, rfl, HB.out⟩
  · rw [if_neg hm]
    exact wrasB w0 s n m p q i_n i_m i_p i_q hm hLD w h hlim
theorem wcolor (w0 : World) (s : ByteArray) (n m p q r : Int) (i_n : In n) (i_m : In m) (i_p : In p) (i_q : In q) (i_r : In r) (hLD : Laid w0) (w : World) (h : Bld w0 s w) (hlim : s.size ≤ 1000) :
    Calls Tryd.prog 18 #[.iface 46 (.pointer (some ⟨w0.heap.size, 0, none⟩)), .int .i64 n, .int .i64 m, .int .i64 p, .int .i64 q, .int .i64 r] w (Wrote w0 s (colT n m p q r)) := by
  unfold colT
  by_cases h1 : m ≤ 0
  · rw [if_pos (Or.inl h1)]
    exact wcolor1a w0 s n m p q r i_n h1 hLD w h hlim
  · by_cases h2 : 2 < m
    · rw [if_pos (Or.inr h2)]
      exact wcolor1b w0 s n m p q r i_n h2 hLD w h hlim
    · rw [if_neg (by omega)]
      exact wcolor5 w0 s n m p q r i_n i_m i_p i_q i_r (by omega) (by omega) hLD w h hlim

set_option maxHeartbeats 8000000 in
set_option maxRecDepth 100000 in
theorem to_repeat (w0 : World) (s : ByteArray) (n c : Int) (i_n : In n) (c0 : 0 ≤ c) (c1 : c < 256) (hLD : Laid w0) (w : World) (h : Bld w0 s w) (hlim : s.size ≤ 1000) :
    Calls Tryd.prog 30 #[.agg #[.int .i64 n, .int .u8 c], .iface 46 (.pointer (some ⟨w0.heap.size, 0, none⟩))] w (Wrote w0 s (((txt [33] ++ digs n) ++ Utf8.encode c))) := by
  have HQ := Lib.hid (wrepeat w0 s n c i_n c0 c1 hLD _ (h.old ((Below.refl w.heap.size w).alloc (Nat.le_refl _) (.cells #[.int .i64 n, .int .u8 c] 57))) hlim)
  clear h hLD
  go_enter Tryd.func30, Tryd.ntmps30
  go_wp2_with (go_at_call 20; refine HQ.out.mono ?_; rintro e w' ⟨k, rfl, hb⟩; have HB := Lib.hid hb; clear hb)
  go_ret2
  exact ⟨_, rfl, HB.out⟩

set_option maxHeartbeats 8000000 in
set_option maxRecDepth 100000 in
theorem to_raster (w0 : World) (s : ByteArray) (n m p q : Int) (i_n : In n) (i_m : In m) (i_p : In p) (i_q : In q) (hLD : Laid w0) (w : World) (h : Bld w0 s w) (hlim : s.size ≤ 1000) :
    Calls Tryd.prog 31 #[.agg #[.int .i64 n, .int .i64 m, .int .i64 p, .int .i64 q], .iface 46 (.pointer (some ⟨w0.heap.size, 0, none⟩))] w (Wrote w0 s (rasT n m p q)) := by
  have HQ := Lib.hid (wraster w0 s n m p q i_n i_m i_p i_q hLD _ (h.old ((Below.refl w.heap.size w).alloc (Nat.le_refl _) (.cells #[.int .i64 n, .int .i64 m, .int .i64 p, .int .i64 q] 60))) hlim)
  clear h hLD
  go_enter Tryd.func31, Tryd.ntmps31
  go_wp2_with (go_at_call 22; refine HQ.out.mono ?_; rintro e w' ⟨k, rfl, hb⟩; have HB := Lib.hid hb; clear hb)
  go_ret2
  exact ⟨_, rfl, HB.out⟩

set_option maxHeartbeats 8000000 in
set_option maxRecDepth 100000 in
theorem str_repeat (n c : Int) (i_n : In n) (c0 : 0 ≤ c) (c1 : c < 256) (w : World) (hLD : Laid w) :
    Calls Tryd.prog 21 #[.agg #[.int .i64 n, .int .u8 c]] w fun e w' => e = .returned (.string (((txt [33] ++ digs n) ++ Utf8.encode c))) ∧ Below w.heap.size w w' := by
  have hb0 : Below w.heap.size w (w.alloc (.cells #[.int .i64 n, .int .u8 c] 57)) := (Below.refl w.heap.size w).alloc (Nat.le_refl _) _
  have HB0 := Lib.hid hb0
  have HQ := Lib.hid (to_repeat (w.alloc (.cells #[.int .i64 n, .int .u8 c] 57)) ByteArray.empty n c i_n c0 c1 (hLD.below hb0) _ (fresh _) (by decide))
  have HS := Lib.hid (str (w.alloc (.cells #[.int .i64 n, .int .u8 c] 57)) (ByteArray.empty ++ (((txt [33] ++ digs n) ++ Utf8.encode c))))
  clear hb0 hLD
  simp only [World.size_alloc] at HQ HS
  go_enter Tryd.func21, Tryd.ntmps21
  go_wp2_with (first | (go_at_call 30; refine HQ.out.mono ?_; rintro e w' ⟨k, rfl, hb⟩; have HB := Lib.hid hb; clear hb) | (go_at_call 19; refine (HS.out _ HB.out).mono ?_; rintro e w' ⟨rfl, hb⟩; have HE := Lib.hid hb; clear hb))
  go_ret
  exact ⟨by first | rfl | rw [empty_app], HB0.out.trans (HE.out.mono (by simp))⟩

set_option maxHeartbeats 8000000 in
set_option maxRecDepth 100000 in
theorem str_raster (n m p q : Int) (i_n : In n) (i_m : In m) (i_p : In p) (i_q : In q) (w : World) (hLD : Laid w) :
    Calls Tryd.prog 23 #[.agg #[.int .i64 n, .int .i64 m, .int .i64 p, .int .i64 q]] w fun e w' => e = .returned (.string (rasT n m p q)) ∧ Below w.heap.size w w' := by
  have hb0 : Below w.heap.size w (w.alloc (.cells #[.int .i64 n, .int .i64 m, .int .i64 p, .int .i64 q] 60)) := (Below.refl w.heap.size w).alloc (Nat.le_refl _) _
  have HB0 := Lib.hid hb0
  have HQ := Lib.hid (to_raster (w.alloc (.cells #[.int .i64 n, .int .i64 m, .int .i64 p, .int .i64 q] 60)) ByteArray.empty n m p q i_n i_m i_p i_q (hLD.below hb0) _ (fresh _) (by decide))
  have HS := Lib.hid (str (w.alloc (.cells #[.int .i64 n, .int .i64 m, .int .i64 p, .int .i64 q] 60)) (ByteArray.empty ++ (rasT n m p q)))
  clear hb0 hLD
  simp only [World.size_alloc] at HQ HS
  go_enter Tryd.func23, Tryd.ntmps23
  go_wp2_with (first | (go_at_call 31; refine HQ.out.mono ?_; rintro e w' ⟨k, rfl, hb⟩; have HB := Lib.hid hb; clear hb) | (go_at_call 19; refine (HS.out _ HB.out).mono ?_; rintro e w' ⟨rfl, hb⟩; have HE := Lib.hid hb; clear hb))
  go_ret
  exact ⟨by first | rfl | rw [empty_app], HB0.out.trans (HE.out.mono (by simp))⟩

set_option maxHeartbeats 8000000 in
set_option maxRecDepth 100000 in
theorem d_wrepeat (n c : Int) (i_n : In n) (c0 : 0 ≤ c) (c1 : c < 256) (w : World) (hLD : Laid w) :
    Calls Tryd.prog 9 #[.int .i64 n, .int .u8 c] w fun e w' => e = .returned (.string (((txt [33] ++ digs n) ++ Utf8.encode c))) ∧ Below w.heap.size w w' := by
  have HQ := Lib.hid (wrepeat w ByteArray.empty n c i_n c0 c1 hLD _ (fresh _) (by decide))
  have HS := Lib.hid (str w (ByteArray.empty ++ (((txt [33] ++ digs n) ++ Utf8.encode c))))
  clear hLD
  go_enter Tryd.func9, Tryd.ntmps9
  go_wp2_with (first | (go_at_call 20; refine HQ.out.mono ?_; rintro e w' ⟨k, rfl, hb⟩; have HB := Lib.hid hb; clear hb) | (go_at_call 19; refine (HS.out _ HB.out).mono ?_; rintro e w' ⟨rfl, hb⟩; have HE := Lib.hid hb; clear hb))
  go_ret
  exact ⟨by first | rfl | rw [empty_app], HE.out⟩

set_option maxHeartbeats 8000000 in
set_option maxRecDepth 100000 in
theorem d_wraster (n m p q : Int) (i_n : In n) (i_m : In m) (i_p : In p) (i_q : In q) (w : World) (hLD : Laid w) :
    Calls Tryd.prog 13 #[.agg #[.int .i64 n, .int .i64 m, .int .i64 p, .int .i64 q]] w fun e w' => e = .returned (.string (rasT n m p q)) ∧ Below w.heap.size w w' := by
  have hb0 : Below w.heap.size w (w.alloc (.cells #[.int .i64 n, .int .i64 m, .int .i64 p, .int .i64 q] 33)) := (Below.refl w.heap.size w).alloc (Nat.le_refl _) _
  have HB0 := Lib.hid hb0
  have HQ := Lib.hid (wraster (w.alloc (.cells #[.int .i64 n, .int .i64 m, .int .i64 p, .int .i64 q] 33)) ByteArray.empty n m p q i_n i_m i_p i_q (hLD.below hb0) _ (fresh _) (by decide))
  have HS := Lib.hid (str (w.alloc (.cells #[.int .i64 n, .int .i64 m, .int .i64 p, .int .i64 q] 33)) (ByteArray.empty ++ (rasT n m p q)))
  clear hb0 hLD
  simp only [World.size_alloc] at HQ HS
  go_enter Tryd.func13, Tryd.ntmps13
  go_wp2_with (first | (go_at_call 22; refine HQ.out.mono ?_; rintro e w' ⟨k, rfl, hb⟩; have HB := Lib.hid hb; clear hb) | (go_at_call 19; refine (HS.out _ HB.out).mono ?_; rintro e w' ⟨rfl, hb⟩; have HE := Lib.hid hb; clear hb))
  go_ret
  exact ⟨by first | rfl | rw [empty_app], HB0.out.trans (HE.out.mono (by simp))⟩

set_option maxHeartbeats 8000000 in
set_option maxRecDepth 100000 in
theorem d_wcolor (n m p q r : Int) (i_n : In n) (i_m : In m) (i_p : In p) (i_q : In q) (i_r : In r) (w : World) (hLD : Laid w) :
    Calls Tryd.prog 7 #[.agg #[.int .i64 n, .int .i64 m, .int .i64 p, .int .i64 q, .int .i64 r]] w fun e w' => e = .returned (.string (colT n m p q r)) ∧ Below w.heap.size w w' := by
  have hb0 : Below w.heap.size w (w.alloc (.cells #[.int .i64 n, .int .i64 m, .int .i64 p, .int .i64 q, .int .i64 r] 23)) := (Below.refl w.heap.size w).alloc (Nat.le_refl _) _
  have HB0 := Lib.hid hb0
  have HQ := Lib.hid (wcolor (w.alloc (.cells #[.int .i64 n, .int .i64 m, .int .i64 p, .int .i64 q, .int .i64 r] 23)) ByteArray.empty n m p q r i_n i_m i_p i_q i_r (hLD.below hb0) _ (fresh _) (by decide))
  have HS := Lib.hid (str (w.alloc (.cells #[.int .i64 n, .int .i64 m, .int .i64 p, .int .i64 q, .int .i64 r] 23)) (ByteArray.empty ++ (colT n m p q r)))
  clear hb0 hLD
  simp only [World.size_alloc] at HQ HS
  go_enter Tryd.func7, Tryd.ntmps7
  go_wp2_with (first | (go_at_call 18; refine HQ.out.mono ?_; rintro e w' ⟨k, rfl, hb⟩; have HB := Lib.hid hb; clear hb) | (go_at_call 19; refine (HS.out _ HB.out).mono ?_; rintro e w' ⟨rfl, hb⟩; have HE := Lib.hid hb; clear hb))
  go_ret
  exact ⟨by first | rfl | rw [empty_app], HB0.out.trans (HE.out.mono (by simp))⟩

set_option maxHeartbeats 8000000 in
set_option maxRecDepth 100000 in
theorem d_trepeat (n c : Int) (i_n : In n) (c0 : 0 ≤ c) (c1 : c < 256) (w : World) (hLD : Laid w) :
    Calls Tryd.prog 11 #[.int .i64 n, .int .u8 c] w fun e w' => e = .returned (.string (((txt [33] ++ digs n) ++ Utf8.encode c))) ∧ Below w.heap.size w w' := by
  have HQ := Lib.hid (fun W h => str_repeat n c i_n c0 c1 W h)
  have HL := Lib.hid hLD
  clear hLD
  go_enter Tryd.func11, Tryd.ntmps11
  go_wp2_with (go_at_call 21; refine (HQ.out _ HL.out).mono ?_; rintro e w' ⟨rfl, hb⟩; have HE := Lib.hid hb; clear hb)
  go_ret
  exact ⟨rfl, HE.out⟩

set_option maxHeartbeats 8000000 in
set_option maxRecDepth 100000 in
theorem d_traster (n m p q : Int) (i_n : In n) (i_m : In m) (i_p : In p) (i_q : In q) (w : World) (hLD : Laid w) :
    Calls Tryd.prog 14 #[.agg #[.int .i64 n, .int .i64 m, .int .i64 p, .int .i64 q]] w fun e w' => e = .returned (.string (rasT n m p q)) ∧ Below w.heap.size w w' := by
  have hb0 : Below w.heap.size w (w.alloc (.cells #[.int .i64 n, .int .i64 m, .int .i64 p, .int .i64 q] 33)) := (Below.refl w.heap.size w).alloc (Nat.le_refl _) _
  have HB0 := Lib.hid hb0
  have HQ := Lib.hid (str_raster n m p q i_n i_m i_p i_q _ (hLD.below hb0))
  clear hb0 hLD
  go_enter Tryd.func14, Tryd.ntmps14
  go_wp2_with (go_at_call 23; refine HQ.out.mono ?_; rintro e w' ⟨rfl, hb⟩; have HE := Lib.hid hb; clear hb)
  go_ret
  exact ⟨rfl, HB0.out.trans (HE.out.mono (by simp))⟩

def impl_WriteRepeat.f (n c : Int) : Option ByteArray := if In n ∧ 0 ≤ c ∧ c < 256 then some (((txt [33] ++ digs n) ++ Utf8.encode c)) else none
theorem impl_WriteRepeat.calls (n c : Int) (r_ : ByteArray) (w : World) (hLD : Laid w) (h : impl_WriteRepeat.f n c = some r_) :
    Calls Tryd.prog 9 #[.int .i64 n, .int .u8 c] w fun e w' => e = .returned (.string r_) ∧ Below w.heap.size w w' := by
  unfold impl_WriteRepeat.f at h
  split at h
  · rename_i hr
    obtain ⟨i_n, c0, c1⟩ := hr
    obtain rfl := Option.some.inj h
    exact d_wrepeat n c i_n c0 c1 w hLD
  · cases h

def impl_RepeatText.f (n c : Int) : Option ByteArray := if In n ∧ 0 ≤ c ∧ c < 256 then some (((txt [33] ++ digs n) ++ Utf8.encode c)) else none
theorem impl_RepeatText.calls (n c : Int) (r_ : ByteArray) (w : World) (hLD : Laid w) (h : impl_RepeatText.f n c = some r_) :
    Calls Tryd.prog 11 #[.int .i64 n, .int .u8 c] w fun e w' => e = .returned (.string r_) ∧ Below w.heap.size w w' := by
  unfold impl_RepeatText.f at h
  split at h
  · rename_i hr
    obtain ⟨i_n, c0, c1⟩ := hr
    obtain rfl := Option.some.inj h
    exact d_trepeat n c i_n c0 c1 w hLD
  · cases h

def impl_WriteRaster.f (n m p q : Int) : Option ByteArray := if In n ∧ In m ∧ In p ∧ In q then some (rasT n m p q) else none
theorem impl_WriteRaster.calls (n m p q : Int) (r_ : ByteArray) (w : World) (hLD : Laid w) (h : impl_WriteRaster.f n m p q = some r_) :
    Calls Tryd.prog 13 #[.agg #[.int .i64 n, .int .i64 m, .int .i64 p, .int .i64 q]] w fun e w' => e = .returned (.string r_) ∧ Below w.heap.size w w' := by
  unfold impl_WriteRaster.f at h
  split at h
  · rename_i hr
    obtain ⟨i_n, i_m, i_p, i_q⟩ := hr
    obtain rfl := Option.some.inj h
    exact d_wraster n m p q i_n i_m i_p i_q w hLD
  · cases h

def impl_RasterText.f (n m p q : Int) : Option ByteArray := if In n ∧ In m ∧ In p ∧ In q then some (rasT n m p q) else none
theorem impl_RasterText.calls (n m p q : Int) (r_ : ByteArray) (w : World) (hLD : Laid w) (h : impl_RasterText.f n m p q = some r_) :
    Calls Tryd.prog 14 #[.agg #[.int .i64 n, .int .i64 m, .int .i64 p, .int .i64 q]] w fun e w' => e = .returned (.string r_) ∧ Below w.heap.size w w' := by
  unfold impl_RasterText.f at h
  split at h
  · rename_i hr
    obtain ⟨i_n, i_m, i_p, i_q⟩ := hr
    obtain rfl := Option.some.inj h
    exact d_traster n m p q i_n i_m i_p i_q w hLD
  · cases h

def impl_WriteColor.f (n m p q r : Int) : Option ByteArray := if In n ∧ In m ∧ In p ∧ In q ∧ In r then some (colT n m p q r) else none
theorem impl_WriteColor.calls (n m p q r : Int) (r_ : ByteArray) (w : World) (hLD : Laid w) (h : impl_WriteColor.f n m p q r = some r_) :
    Calls Tryd.prog 7 #[.agg #[.int .i64 n, .int .i64 m, .int .i64 p, .int .i64 q, .int .i64 r]] w fun e w' => e = .returned (.string r_) ∧ Below w.heap.size w w' := by
  unfold impl_WriteColor.f at h
  split at h
  · rename_i hr
    obtain ⟨i_n, i_m, i_p, i_q, i_r⟩ := hr
    obtain rfl := Option.some.inj h
    exact d_wcolor n m p q r i_n i_m i_p i_q i_r w hLD
  · cases h

end Go.Proofs.YtjicpadeplminaaDoor.Bld
