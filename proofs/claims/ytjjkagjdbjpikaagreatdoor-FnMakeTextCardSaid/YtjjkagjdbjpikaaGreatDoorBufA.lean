/- The writers of bytes.Buffer, by the kit's shelf, in one form for hand walks: what a buffer of the call's own holds is one text. -/
import Derived.Test.YtjjkagjdbjpikaaGreatDoorOr
import Derived.Lib.BufferOld
import Derived.Lib.BufferWrite
import Derived.WalkKit
import Derived.BigCall
namespace Go.Proofs.YtjjkagjdbjpikaaGreatDoor.Buf
open Go Go.RowKit Go.Proofs.YtjjkagjdbjpikaaGreatDoor.Or

/-- The buffer that the call laid first holds the text s, and of what was there nothing has turned. -/
def Buf (w0 : World) (s : ByteArray) (w : World) : Prop := Lib.IsBuffer 49 5 w0.heap.size w0.heap.size (Lib.byteCells s.data.toList) w ∧ Below w0.heap.size w0 w

theorem fresh (w0 : World) : Buf w0 ByteArray.empty (w0.alloc (.cells #[.slice none 0 0, .int .i64 0, .int .i8 0] 49)) :=
  ⟨by simpa [Lib.byteCells] using Lib.fresh_isBuffer 49 5 w0, (Below.refl _ w0).alloc (Nat.le_refl _) _⟩

theorem Buf.old {w0 w w' : World} {s : ByteArray} (h : Buf w0 s w) (hb : Below w.heap.size w w') : Buf w0 s w' := ⟨h.1.old hb, h.2.trans (hb.mono h.2.size)⟩

theorem ws (w0 : World) (s t : ByteArray) (w : World) (h : Buf w0 s w) (hlim : s.size + t.size ≤ 140737488355328) :
    Calls Tryz.prog 63 #[.pointer (some ⟨w0.heap.size, 0, none⟩), .string t] w fun e w' => e = .returned (.tuple #[.int .i64 t.size, .nilIface]) ∧ Buf w0 (s ++ t) w' := by
  refine (Tryz.Buffer_WriteString w0.heap.size w0.heap.size _ t w h.1 h.2.size (Lib.byteCells_one _) (by rw [Lib.byteCells_length, ← Lib.size_eq]; exact hlim)).mono ?_
  rintro e w' ⟨rfl, h1, b1⟩
  refine ⟨rfl, ?_, h.2.trans b1⟩
  have e1 : (s ++ t).data.toList = s.data.toList ++ t.data.toList := by simp [ByteArray.data_append]
  rw [e1, Lib.byteCells_append]
  exact h1

theorem str (w0 : World) (s : ByteArray) (w : World) (h : Buf w0 s w) :
    Calls Tryz.prog 65 #[.pointer (some ⟨w0.heap.size, 0, none⟩)] w fun e w' => e = .returned (.string s) ∧ Below w0.heap.size w0 w' := by
  refine (Tryz.Buffer_String w0.heap.size w0.heap.size _ w h.1).mono ?_
  rintro e w' ⟨rfl, n, rfl⟩
  exact ⟨by simp, h.2.trans ⟨rfl, rfl, rfl, Nat.le_refl _, fun _ _ => rfl⟩⟩

end Go.Proofs.YtjjkagjdbjpikaaGreatDoor.Buf
