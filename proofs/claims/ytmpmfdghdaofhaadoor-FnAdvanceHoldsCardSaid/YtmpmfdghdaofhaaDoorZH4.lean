/- Texts of this claim, joined; what isn't needed is left out (wip/slim.py). -/
import Derived.Test.YtmpmfdghdaofhaaDoorZH3
import Derived.Test.YtmpmfdghdaofhaaDoorZH1
import Derived.Test.YtmpmfdghdaofhaaDoorZH2
import Derived.Lib.SlBytesConst
import Derived.Lib.ConvBytes
namespace Go.Proofs.YtmpmfdghdaofhaaDoor.Ext
open Go Go.RowKit Go.Proofs.YtmpmfdghdaofhaaDoorW.PrintWords Go.Proofs.YtmpmfdghdaofhaaDoorW.PrintLast
theorem C_lit (W : World) (xs : List Int) (C : Array Value) (e : TypeId) (mk : Nat × Nat) (hC : C = (xs.map fun x => Value.int .u8 x).toArray) (hn : xs.length ≤ 9223372036854775807) :
    Kd.C (Kd.int .u8) (W.alloc (.cells C e mk)) (some ⟨W.heap.size, 0, none⟩) xs.length xs := by
  refine ⟨rfl, hn, fun _ => ⟨⟨W.heap.size, 0, none⟩, rfl, fun j p hj => ⟨[Value.int .u8 p], rfl, rfl, fun i u hu => ?_⟩⟩⟩
  have hi : i = 0 := by
    rcases i with _ | i
    · rfl
    · simp at hu
  subst hi
  simp only [List.getElem?_cons_zero, Option.some.injEq] at hu
  subst hu
  show (W.alloc (.cells C e mk)).cell? (Addr.add ⟨W.heap.size, 0, none⟩ (j * 1 + 0)) = _
  have ha : Addr.add ⟨W.heap.size, 0, none⟩ (j * 1 + 0) = ⟨W.heap.size, j, none⟩ := by rw [Nat.mul_one, Nat.add_zero, add_plain]
  rw [ha, World.cell?_alloc_mark, hC]
  simp [hj]
theorem below_bytes {w W : World} {e : TypeId} {s : ByteArray} (h : Below w.heap.size w W) : Below w.heap.size w (Lib.bytesWorld W e s) := bytes_below h (below_size h) e s
theorem R_bytes {α : Type} {d : Kd α} {t : Nat} {W : World} {base : Nat} {ok : Nat → Prop} {v : Value} {xs : List α} {e : TypeId} {s : ByteArray} (h : Kd.R d t W base ok v xs) : Kd.R d t (Lib.bytesWorld W e s) base ok v xs :=
  Kd.R_below h (bytes_below (Below.refl _ _) (Nat.le_refl _) e s)
end Go.Proofs.YtmpmfdghdaofhaaDoor.Ext
