/- Small rules for the walk beside the print's words: bytes that a call makes of a constant or of a text, read at once. -/
import Derived.Test.YtakjcihjkagnfaaDoorWMore
import Derived.Test.YtakjcihjkagnfaaDoorWWords
import Derived.Test.YtakjcihjkagnfaaDoorWLast
import Derived.Lib.SlBytesConst
import Derived.Lib.ConvBytes
namespace Go.Proofs.YtakjcihjkagnfaaDoor.Ext
open Go Go.RowKit Go.Proofs.YtakjcihjkagnfaaDoorW.PrintWords Go.Proofs.YtakjcihjkagnfaaDoorW.PrintLast

/-- A field of a function type that is never set. -/
def kNilF : Kd Bool := Kd.scalar (fun _ => Value.nilFunc) (fun _ => rfl)

theorem C_lit (W : World) (xs : List Int) (C : Array Value) (e : TypeId) (mk : Nat × Nat) (hC : C = (xs.map fun x => Value.int .u8 x).toArray) (hn : xs.length ≤ 9223372036854775807) :
    Kd.C (Kd.int .u8) (W.alloc (.cells C e mk)) (some ⟨W.heap.size, 0, none⟩) xs.length xs := by
  refine ⟨rfl, hn, fun _ => ⟨⟨W.heap.size, 0, none⟩, rfl, fun j p hj => ⟨[Value.int .u8 p], rfl, rfl, fun i u hu => ?_⟩⟩⟩
  have hi : i = 0 := by
    rcases i with _ | i
    · rfl
    · simp at hu
  subst hi
  simp only [List.getElem?_cons_zero, Option.some.injEq] at hu
  subst hu
  show (W.alloc (.cells C e mk)).cell? (Addr.add ⟨W.heap.size, 0, none⟩ (j * 1 + 0)) = _
  have ha : Addr.add ⟨W.heap.size, 0, none⟩ (j * 1 + 0) = ⟨W.heap.size, j, none⟩ := by rw [Nat.mul_one, Nat.add_zero, add_plain]
  rw [ha, World.cell?_alloc_mark, hC]
  simp [hj]

theorem C_bytes (W : World) (e : TypeId) (s : ByteArray) (hs : s.size ≤ 9223372036854775807) : Kd.C (Kd.int .u8) (Lib.bytesWorld W e s) (some ⟨W.heap.size, 0, none⟩) (bytesOf s).length (bytesOf s) := by
  have h := Kd.C_of_reads (d := (0 : Int)) (h1 := fun _ => rfl) (bytes_reads W e s hs)
  have hl : (bytesOf s).length = s.size := by simp [bytesOf]
  rw [hl]
  exact h

theorem conv_lit_drewN {P : Program} (t e : TypeId) (ht : P.underlying t = some (.slice e)) (he : P.underlying e = some (.int .u8)) (w : World) (m : Nat) (C : Array Value) (n c : Nat) :
    (convert t t (.slice (some ⟨w.heap.size, 0, none⟩) n c)).run P ((w.drewN m).alloc (.cells C e)) = .ok (.slice (some ⟨w.heap.size, 0, none⟩) n c) ((w.drewN m).alloc (.cells C e (C.size, C.size + 1))) :=
  Lib.run_convert_bytes_const (w.drewN m) t e C n c ht he
theorem C_lit_at (W : World) (xs : List Int) (N : Nat) (C : Array Value) (e : TypeId) (mk : Nat × Nat) (h : W.heap.size = N) (hC : C = (xs.map fun x => Value.int .u8 x).toArray) (hn : xs.length ≤ 9223372036854775807) :
    Kd.C (Kd.int .u8) (W.alloc (.cells C e mk)) (some ⟨N, 0, none⟩) xs.length xs := by
  subst h
  exact C_lit W xs C e mk hC hn
theorem conv_lit_at {P : Program} (t e : TypeId) (ht : P.underlying t = some (.slice e)) (he : P.underlying e = some (.int .u8)) (w : World) (N : Nat) (h : w.heap.size = N) (C : Array Value) (n c : Nat) :
    (convert t t (.slice (some ⟨N, 0, none⟩) n c)).run P (w.alloc (.cells C e)) = .ok (.slice (some ⟨N, 0, none⟩) n c) (w.alloc (.cells C e (C.size, C.size + 1))) := by
  subst h
  exact Lib.run_convert_bytes_const w t e C n c ht he
theorem conv_lit_drew {P : Program} (t e : TypeId) (ht : P.underlying t = some (.slice e)) (he : P.underlying e = some (.int .u8)) (w : World) (C : Array Value) (n c : Nat) :
    (convert t t (.slice (some ⟨w.heap.size, 0, none⟩) n c)).run P (w.drew.alloc (.cells C e)) = .ok (.slice (some ⟨w.heap.size, 0, none⟩) n c) (w.drew.alloc (.cells C e (C.size, C.size + 1))) :=
  Lib.run_convert_bytes_const w.drew t e C n c ht he

theorem bytes_room (W : World) (s : ByteArray) (e : TypeId) : (bytesOf s).length ≤ grownCap W s.size 0 e := by
  have hl : (bytesOf s).length = s.size := by simp [bytesOf]
  rw [hl]
  exact grownCap_ge _ _ _ _

theorem below_bytes {w W : World} {e : TypeId} {s : ByteArray} (h : Below w.heap.size w W) : Below w.heap.size w (Lib.bytesWorld W e s) := bytes_below h (below_size h) e s
theorem R_bytes {α : Type} {d : Kd α} {t : Nat} {W : World} {base : Nat} {ok : Nat → Prop} {v : Value} {xs : List α} {e : TypeId} {s : ByteArray} (h : Kd.R d t W base ok v xs) : Kd.R d t (Lib.bytesWorld W e s) base ok v xs :=
  Kd.R_below h (bytes_below (Below.refl _ _) (Nat.le_refl _) e s)
theorem C_bytes_old {α : Type} {d : Kd α} {W : World} {A : Option Addr} {n : Nat} {xs : List α} {e : TypeId} {s : ByteArray} (h : Kd.C d W A n xs) : Kd.C d (Lib.bytesWorld W e s) A n xs :=
  Kd.C_below h (bytes_below (Below.refl _ _) (Nat.le_refl _) e s)

section
variable {P : Program} {ops : Array Oper} {o : Oper} {rest : List Oper} {a : Act} {Q : Exit → Act → World → Prop} {α : Type}
/-- 'make([]T, 0, n)': a row of one's own without elements yet. -/
theorem R_make0 (d : Kd α) {w0 W : World} (base e : Nat) (hgd : o.guard = none) {N : Tmp} (_hd : o.dst = some N) (t : TypeId) (x y : Operand) (ho : o.op = .makeSlice t x y) (n : Int) (hx : a.eval x = .int .i64 0) (hy : a.eval y = .int .i64 n)
    (ht : P.underlying t = some (.slice e)) (z : Value) (bytes : Nat) (hinfo : (P.info? e).map (fun i => (i.zero, i.size, i.bytes)) = some (some z, d.sz, bytes)) (_hz : z.cells.size = d.sz) (_hs0 : 0 < d.sz) (hb0 : 0 < bytes)
    (z0 : α) {ok okp : Nat → Prop} (_hzero : d.M W base okp z0 z.cells.toList) (_hok : ∀ k, okp k → ok k) (hfresh : ok W.heap.size) (h0 : 0 ≤ n) (hl : n.toNat * bytes ≤ 281474976710656) (HB : Below base w0 W) (hbase : base ≤ W.heap.size)
    (h : ∀ v1 w1, d.R e w1 base ok v1 ([] : List α) → Below base w0 w1 → W.grownBy w1 none → (∃ b, v1.ownBlock = some b ∧ W.heap.size ≤ b) → wpList P ops Q rest (a.put o.dst v1) w1) : wpList P ops Q (o :: rest) a W := by
  obtain ⟨m, rfl⟩ := Int.eq_ofNat_of_zero_le h0
  simp only [Int.toNat_natCast] at hl
  obtain ⟨i0, hi, hzz⟩ := Option.map_eq_some_iff.1 hinfo
  simp only [Prod.mk.injEq] at hzz
  obtain ⟨hz0, hz1, hz2⟩ := hzz
  have hm : m ≤ 281474976710656 := Nat.le_trans (Nat.le_mul_of_pos_right _ hb0) hl
  have hr := run_make (P := P) (w := W) t e i0 z ht hi hz0 .i64 .i64 (0 : Int) (m : Int) (by omega) (by omega)
    (by
      have h3 : ((i0.bytes * m : Nat) : Int) ≤ 281474976710656 := by rw [hz2, Nat.mul_comm]; omega
      rwa [Int.natCast_mul] at h3) (by omega)
  simp only [Int.toNat_natCast, Int.toNat_zero] at hr
  refine Kd.event_run hgd (w1 := W.alloc (.cells (madeCells z.cells (m * i0.size)) e)) (v := .slice (some ⟨W.heap.size, 0, none⟩) 0 m) ?_ (h _ _ ⟨fun k hk => ?_, [], ?_, Reps.none _ _⟩ (HB.alloc hbase _) (World.grownBy_alloc W _ none) ⟨W.heap.size, by simp [Value.ownBlock], Nat.le_refl _⟩)
  · simp [execOp, ho, hx, hy, hr]
  · have : W.heap.size = k := by simpa [Value.ownBlock] using hk
    subst this
    exact hfresh
  · refine ⟨by simp, .inr ⟨W.heap.size, m, madeCells z.cells (m * i0.size), rfl, hbase, heap_alloc_new W _, Nat.zero_le _, by unfold maxLen; omega, ?_, by simp⟩⟩
    rw [hz1]
    exact size_madeCells _ _
end

/-- A slice's length may be spelled otherwise. -/
theorem calls_len {P : Program} {F : Nat} {A : Option Addr} {n m c k : Nat} {w : World} {Q : Ending → World → Prop} (h1 : m = k) (h2 : n = k) (H : Calls P F #[.slice A m c] w Q) : Calls P F #[.slice A n c] w Q := by
  obtain rfl : n = m := by omega
  exact H
end Go.Proofs.YtakjcihjkagnfaaDoor.Ext
