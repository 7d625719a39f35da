/- The contracts that the print of FnSixelBack needs, together: the writers' (Bld) and the decoders' (OrNumsD); and the length of a joined text's bytes as the walk spells it. -/
import Derived.Test.YtjicpadeplminaaDoorBld
import Derived.Test.YtjicpadeplminaaDoorOrNumsD
import Derived.Test.YtjicpadeplminaaDoorExt2
namespace Go.Proofs.YtjicpadeplminaaDoor.Back
open Go Go.RowKit Go.Proofs.YtjicpadeplminaaDoorW.PrintWords
theorem calls_len {P : Program} {F : Nat} {A : Option Addr} {n m c k : Nat} {w : World} {Q : Ending → World → Prop} (h1 : m = k) (h2 : n = k) (H : Calls P F #[.slice A m c] w Q) : Calls P F #[.slice A n c] w Q := by
  obtain rfl : n = m := by omega
  exact H
theorem size_one (t : ByteArray) (c : UInt8) : t.size + 1 = (t ++ (⟨#[c]⟩ : ByteArray)).size := by rw [ByteArray.size_append]; rfl
theorem blk_bytes {W : World} {g : Nat} {cs : Array Value} {t : TypeId} {e : TypeId} {s : ByteArray} (h : W.heap[g]? = some (.cells cs t (0, 0))) : (Lib.bytesWorld W e s).heap[g]? = some (.cells cs t (0, 0)) :=
  ((bytes_below (Below.refl _ W) (Nat.le_refl _) e s).block g (lt_of_block h)).trans h
theorem bytes_room_at (W : World) (s : ByteArray) (e : TypeId) {n : Nat} (h : n = s.size) : (bytesOf s).length ≤ grownCap W n 0 e := by
  subst h
  exact Go.Proofs.YtjicpadeplminaaDoor.Ext.bytes_room W s e
end Go.Proofs.YtjicpadeplminaaDoor.Back
