/- Small rules for the walk, beside the kit's: a remainder fits its wider kind. No program in sight. -/
import Derived.RowKit
import Derived.Laws.BitsLemmas
namespace Go.Proofs.YtakjcihjkagnfaaDoor.Ext
open Go Go.RowKit

theorem wrap64_mod256 (x : Int) : wrap64 (x % 256) = x % 256 := by unfold wrap64; omega
theorem wrap64_mod32 (x : Int) : wrap64 (x % 4294967296) = x % 4294967296 := by unfold wrap64; omega

theorem i64_mod256 (x : Int) : IntKind.i64.wrap (x % 256) = x % 256 := by rw [IntKind.wrap_i64]; omega
theorem i64_mod32 (x : Int) : IntKind.i64.wrap (x % 4294967296) = x % 4294967296 := by rw [IntKind.wrap_i64]; omega
theorem i64_u8 (x : Int) : IntKind.i64.wrap (IntKind.u8.wrap x) = IntKind.u8.wrap x := by rw [IntKind.wrap_i64, IntKind.wrap_u8]; omega
theorem w64_u8 (x : Int) : wrap64 (IntKind.u8.wrap x) = IntKind.u8.wrap x := by unfold wrap64; rw [IntKind.wrap_u8]; omega
theorem i64_u32 (x : Int) : IntKind.i64.wrap (IntKind.u32.wrap x) = IntKind.u32.wrap x := by rw [IntKind.wrap_i64, IntKind.wrap_u32]; omega
theorem w64_u32 (x : Int) : wrap64 (IntKind.u32.wrap x) = IntKind.u32.wrap x := by unfold wrap64; rw [IntKind.wrap_u32]; omega

end Go.Proofs.YtakjcihjkagnfaaDoor.Ext
