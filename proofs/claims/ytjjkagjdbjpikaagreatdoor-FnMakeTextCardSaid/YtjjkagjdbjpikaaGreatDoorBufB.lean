/- bytes.Buffer's WriteByte, as BufA has its other writers. -/
import Derived.Test.YtjjkagjdbjpikaaGreatDoorBufA
namespace Go.Proofs.YtjjkagjdbjpikaaGreatDoor.Buf
open Go Go.RowKit Go.Proofs.YtjjkagjdbjpikaaGreatDoor.Or

theorem wb (w0 : World) (s : ByteArray) (c : UInt8) (n : Int) (hn : n = (c.toNat : Int)) (w : World) (h : Buf w0 s w) (hlim : s.size + 1 ≤ 140737488355328) :
    Calls Tryz.prog 64 #[.pointer (some ⟨w0.heap.size, 0, none⟩), .int .u8 n] w fun e w' => e = .returned .nilIface ∧ Buf w0 (s ++ ⟨#[c]⟩) w' := by
  refine (Tryz.Buffer_WriteByte w0.heap.size w0.heap.size _ n w h.1 h.2.size (Lib.byteCells_one _) (by rw [Lib.byteCells_length, ← Lib.size_eq]; exact hlim)).mono ?_
  rintro e w' ⟨rfl, h1, b1⟩
  refine ⟨rfl, ?_, h.2.trans b1⟩
  have e1 : (s ++ ⟨#[c]⟩).data.toList = s.data.toList ++ [c] := by simp [ByteArray.data_append]
  rw [e1, Lib.byteCells_append]
  subst hn
  exact h1

end Go.Proofs.YtjjkagjdbjpikaaGreatDoor.Buf
