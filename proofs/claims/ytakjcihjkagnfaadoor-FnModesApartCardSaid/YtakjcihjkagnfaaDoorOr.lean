/- The contracts of the library's functions that the walks of this seat rest on, by the kit's shelf: strconv.Itoa tells a number's digits. What is laid: the table of powers of ten. -/
import Derived.Test.YtakjcihjkagnfaaDoorShelf
import Derived.Below
import Derived.Lib.SmallJoins
import Derived.Lib.LaidTab
import Derived.Lib.AppendIntMem
namespace Go.Proofs.YtakjcihjkagnfaaDoor.Or
open Go Go.RowKit

/-- The table of powers of ten holds what the program's text lays. -/
def Laid (w : World) : Prop := Lib.TabIs Tryd.prog w "internal/strconv.uint64pow10" .u64 Lib.pow10Tab
theorem gPow : Tryd.prog.globalNamed "internal/strconv.uint64pow10" = some 0 := by kernel_rfl
theorem Laid.below {w w' : World} (h : Laid w) (hb : Below w.heap.size w w') : Laid w' := Joins.tab_stays gPow h hb (Nat.le_refl _)

def strconv_Itoa.f (a0 : Int) : Option ByteArray := if -9223372036854775808 ≤ a0 ∧ a0 ≤ 9223372036854775807 then some ⟨(Lib.itoa a0).toArray⟩ else none
theorem strconv_Itoa.calls (a0 : Int) (r : ByteArray) (w : World) (hLD : Laid w) (h : strconv_Itoa.f a0 = some r) :
    Calls Tryd.prog 56 #[.int .i64 a0] w fun e w' => e = .returned (.string r) ∧ Below w.heap.size w w' := by
  unfold strconv_Itoa.f at h
  split at h
  · rename_i hr
    obtain rfl := Option.some.inj h
    refine (Tryd.strconv_Itoa a0 hr.1 hr.2 w hLD).mono ?_
    rintro e w' ⟨rfl, k, os, rfl⟩
    exact ⟨rfl, Lib.below_grow _ w (Nat.le_refl _) k os⟩
  · cases h

theorem tab_of {W : World} {rest : List (String × DataW Unit)} {ps : List MemPlace} (h : DataW.LaidVars Tryd.prog W (("internal/strconv.uint64pow10", Lib.tabData .u64 Lib.pow10Tab) :: rest) ps) : Laid W := by
  obtain ⟨g', t', cs, fuel, p, q, hg', ht', hvar, hd, _, _⟩ := h
  obtain rfl := Option.some.inj (gPow.symm.trans hg')
  obtain rfl := Option.some.inj ((show (Tryd.prog.globals[0]?).map (·.type) = some 82 by kernel_rfl).symm.trans ht')
  unfold Laid Lib.TabIs
  rw [hvar, ← Lib.cells_of_tab Tryd.underlying82 Tryd.underlying75 (by kernel_rfl) (by kernel_rfl) hd]

end Go.Proofs.YtakjcihjkagnfaaDoor.Or
