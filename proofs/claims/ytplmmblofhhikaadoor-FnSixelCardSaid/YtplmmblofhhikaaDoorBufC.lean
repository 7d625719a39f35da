/- bytes.Buffer's Write of bytes that lie in old memory, as BufA has its other writers. -/
import Derived.Test.YtplmmblofhhikaaDoorBufA
namespace Go.Proofs.YtplmmblofhhikaaDoor.Buf
open Go Go.RowKit Go.Proofs.YtplmmblofhhikaaDoor.Or

theorem wr (w0 : World) (s : ByteArray) (bs : List UInt8) (ad : Addr) (c : Nat) (w : World) (h : Buf w0 s w) (hb : ad.block < w0.heap.size)
    (hc : ∀ k (hk : k < bs.length), w.cell? (ad.add k) = some (.int .u8 ((bs[k]'hk).toNat : Int))) (hlim : s.size + bs.length ≤ 140737488355328) :
    Calls Tryd.prog 118 #[.pointer (some ⟨w0.heap.size, 0, none⟩), .slice (some ad) bs.length c] w fun e w' => e = .returned (.tuple #[.int .i64 bs.length, .nilIface]) ∧ Buf w0 (s ++ ⟨bs.toArray⟩) w' := by
  refine (Tryd.Buffer_Write w0.heap.size w0.heap.size _ (Lib.byteCells bs) ad bs.length c w h.1 h.2.size (Lib.byteCells_one _) (Lib.byteCells_length _) hb ?_ (Lib.byteCells_one _) (by rw [Lib.byteCells_length, ← Lib.size_eq]; exact hlim)).mono ?_
  · intro j v hj
    unfold Lib.byteCells at hj
    rw [List.getElem?_map] at hj
    cases hq : bs[j]? with
    | none => rw [hq] at hj; cases hj
    | some x =>
      rw [hq] at hj
      obtain rfl := Option.some.inj hj
      obtain ⟨hlt, rfl⟩ := List.getElem?_eq_some_iff.1 hq
      exact hc j hlt
  rintro e w' ⟨rfl, h1, b1⟩
  refine ⟨rfl, ?_, h.2.trans b1⟩
  have e1 : (s ++ ⟨bs.toArray⟩ : ByteArray).data.toList = s.data.toList ++ bs := by simp [ByteArray.data_append]
  rw [e1, Lib.byteCells_append]
  exact h1
end Go.Proofs.YtplmmblofhhikaaDoor.Buf
