/-
  DERIVED: THE SHELF's CONTRACTS AT THIS DUMP, IN PLAIN WORDS (tools/lay-plain.mjs out of 'TryzShelf.lean', which tools/lay-shelf.mjs wrote): THE SAME DECLARATIONS UNDER THE SAME NAMES: 'import', 'namespace', 'open', 'def', 'theorem' AND NOTHING ELSE: no command of the shelf's: FOR A HAND-IN. Each laying: the table of numbers ('.._ren') and one theorem, a field a fact of the dump's own or the kernel's comparison; each contract: ONE APPLICATION.
-/
import Derived.Shelf.Small.Utf8
import Derived.Shelf.Strconv.Itoa0
import Derived.Shelf.Strconv.Itoa1
import Derived.Shelf.LaysM
import Derived.Shelf.Strconv.Itoa2
import Derived.Shelf.Strconv.Itoa3
import Derived.Shelf.Bytes.Len
import Derived.Shelf.Bytes.TryGrow
import Derived.Shelf.Bytes.GrowSliceCatch
import Derived.Shelf.Bytes.GrowSlice
import Derived.Shelf.Bytes.GrowRow0
import Derived.Shelf.Bytes.GrowRow
import Derived.Shelf.Bytes.GrowNil
import Derived.Shelf.Bytes.Grow
import Derived.Shelf.Bytes.WriteByte
import Derived.Shelf.Bytes.WriteString
import Derived.Shelf.Bytes.String
import Derived.Shelf.Bytes.Reset
import Derived.Shelf.Unicode.DecodeSlow
import Derived.Test.YtjjkagjdbjpikaaGreatDoorProg
namespace Go.Proofs
open Go.Shelf
def Tryz.lays120_ren : Go.Shelf.Ren := ⟨fun | 120 => 113 | n => n, fun | 5 => 5 | 4 => 4 | n => n, fun | n => n⟩
theorem Tryz.lays120 : Go.Proofs.Lays.n120 Tryz.prog Tryz.lays120_ren := {
  mixed := by kernel_rfl
  f120 := Tryz.func113.trans (congrArg some (by kernel_rfl))
  t4 := Tryz.underlying4
  a4 := Tryz.isAgg4
  z4 := Tryz.sizeOf4
  v4 := Tryz.zeroValue4
  t5 := Tryz.underlying5
  a5 := Tryz.isAgg5
  z5 := Tryz.sizeOf5
  v5 := Tryz.zeroValue5 }
/-- utf8.RuneStart: "RuneStart reports whether the byte could be the first byte of an encoded, possibly invalid rune. Second and subsequent bytes always have the top two bits set to 10.": IT RETURNS 'Lib.runeStart b'; the world is as it was. ('h0', 'h1': b is a byte: a caller has it of every byte that it was handed.) (LAID: no walk: one application.) -/
theorem Tryz.utf8_RuneStart (b : Int) (w : World) (h0 : 0 ≤ b) (h1 : b < 256) :
    Calls Tryz.prog 113 #[.int .u8 b] w fun e w' => e = .returned (.bool (Lib.runeStart b)) ∧ w' = w := Any.utf8_RuneStart Tryz.lays120 b w h0 h1
def Tryz.lays129_ren : Go.Shelf.Ren := ⟨fun | 129 => 115 | n => n, fun | 53 => 98 | 3 => 3 | 4 => 4 | 46 => 76 | 5 => 5 | 9 => 9 | n => n, fun | n => n⟩
theorem Tryz.lays129 : Go.Proofs.Lays.n129 Tryz.prog Tryz.lays129_ren := {
  mixed := by kernel_rfl
  f129 := Tryz.func115.trans (congrArg some (by kernel_rfl))
  t3 := Tryz.underlying3
  a3 := Tryz.isAgg3
  z3 := Tryz.sizeOf3
  v3 := Tryz.zeroValue3
  t4 := Tryz.underlying4
  a4 := Tryz.isAgg4
  z4 := Tryz.sizeOf4
  v4 := Tryz.zeroValue4
  t5 := Tryz.underlying5
  a5 := Tryz.isAgg5
  z5 := Tryz.sizeOf5
  v5 := Tryz.zeroValue5
  t9 := Tryz.underlying9
  a9 := Tryz.isAgg9
  z9 := Tryz.sizeOf9
  v9 := Tryz.zeroValue9
  t46 := Tryz.underlying76
  a46 := Tryz.isAgg76
  z46 := Tryz.sizeOf76
  v46 := Tryz.zeroValue76
  t53 := Tryz.underlying98
  a53 := Tryz.isAgg98
  z53 := Tryz.sizeOf98
  v53 := Tryz.zeroValue98 }
/-- bits.Len64: "Len64 returns the minimum number of bits required to represent x; the result is 0 for x == 0.": IT RETURNS 'Lib.bitLen x'; the world is as it was. ('h0', 'h1': x is a uint64.) (LAID: no walk: one application.) -/
theorem Tryz.bits_Len64 (x : Int) (w : World) (h0 : 0 ≤ x) (h1 : x ≤ 18446744073709551615) :
    Calls Tryz.prog 115 #[.int .u64 x] w fun e w' => e = .returned (.int .i64 (Lib.bitLen x.toNat)) ∧ w' = w := Any.bits_Len64 Tryz.lays129 x w h0 h1
def Tryz.lays317_ren : Go.Shelf.Ren := ⟨fun | 317 => 114 | n => n, fun | 3 => 3 | 46 => 76 | n => n, fun | n => n⟩
theorem Tryz.lays317 : Go.Proofs.Lays.n317 Tryz.prog Tryz.lays317_ren := {
  mixed := by kernel_rfl
  f317 := Tryz.func114.trans (congrArg some (by kernel_rfl))
  t3 := Tryz.underlying3
  a3 := Tryz.isAgg3
  z3 := Tryz.sizeOf3
  v3 := Tryz.zeroValue3
  t46 := Tryz.underlying76
  a46 := Tryz.isAgg76
  z46 := Tryz.sizeOf76
  v46 := Tryz.zeroValue76 }
open Go.Lib in
/-- internal/strconv.log10Pow2: "log10Pow2(x) returns ⌊log₁₀ 2**x⌋ = ⌊x * log₁₀ 2⌋.": '(x * 78913) >> 18', at an x up to 64 (a length in bits). The world is as it was. (LAID: no walk: one application.) -/
theorem Tryz.internal_strconv_log10Pow2 (x : Nat) (h : x ≤ 64) (w : World) :
    Calls Tryz.prog 114 #[.int .i64 x] w fun e w' => e = .returned (.int .i64 (Lib.l10 x)) ∧ w' = w := Any.internal_strconv_log10Pow2 Tryz.lays317 x h w
def Tryz.lays318_ren : Go.Shelf.Ren := ⟨fun | 318 => 116 | n => n, fun | 3 => 3 | 4 => 4 | n => n, fun | n => n⟩
theorem Tryz.lays318 : Go.Proofs.Lays.n318 Tryz.prog Tryz.lays318_ren := {
  mixed := by kernel_rfl
  f318 := Tryz.func116.trans (congrArg some (by kernel_rfl))
  t3 := Tryz.underlying3
  a3 := Tryz.isAgg3
  z3 := Tryz.sizeOf3
  v3 := Tryz.zeroValue3
  t4 := Tryz.underlying4
  a4 := Tryz.isAgg4
  z4 := Tryz.sizeOf4
  v4 := Tryz.zeroValue4 }
open Go.Lib in
/-- internal/strconv.bool2: "bool2 converts b to an integer: 1 for true, 0 for false." The world is as it was. (LAID: no walk: one application.) -/
theorem Tryz.internal_strconv_bool2_int (b : Bool) (w : World) :
    Calls Tryz.prog 116 #[.bool b] w fun e w' => e = .returned (.int .i64 (if b then 1 else 0)) ∧ w' = w := Any.internal_strconv_bool2_int Tryz.lays318 b w
def Tryz.lays283_ren : Go.Shelf.Ren := ⟨fun | 283 => 106 | n => n, fun | 3 => 3 | 9 => 9 | 4 => 4 | n => n, fun | n => n⟩
theorem Tryz.lays283 : Go.Proofs.Lays.n283 Tryz.prog Tryz.lays283_ren := {
  mixed := by kernel_rfl
  f283 := Tryz.func106.trans (congrArg some (by kernel_rfl))
  t3 := Tryz.underlying3
  a3 := Tryz.isAgg3
  z3 := Tryz.sizeOf3
  v3 := Tryz.zeroValue3
  t4 := Tryz.underlying4
  a4 := Tryz.isAgg4
  z4 := Tryz.sizeOf4
  v4 := Tryz.zeroValue4
  t9 := Tryz.underlying9
  a9 := Tryz.isAgg9
  z9 := Tryz.sizeOf9
  v9 := Tryz.zeroValue9 }
open Go.Lib in
/-- internal/strconv.small: "small returns the string for an i with 0 <= i < nSmalls.": i's decimal numeral. The world is as it was. (LAID: no walk: one application.) -/
theorem Tryz.internal_strconv_small (i : Nat) (h : i < 100) (w : World) :
    Calls Tryz.prog 106 #[.int .i64 i] w fun e w' => e = .returned (.string ⟨(Lib.decDigits i).toArray⟩) ∧ w' = w := Any.internal_strconv_small Tryz.lays283 i h w
def Tryz.laysM284_ren : Go.Shelf.Ren := ⟨fun | 284 => 107 | 129 => 115 | 317 => 114 | 318 => 116 | n => n, fun | 53 => 98 | 3 => 3 | 212 => 107 | 0 => 0 | 4 => 4 | 46 => 76 | 5 => 5 | 9 => 9 | n => n, fun | 17 => 3 | n => n⟩
theorem Tryz.laysM284 : Go.Proofs.LaysM.n284 Tryz.prog Tryz.laysM284_ren := {
  mixed := by kernel_rfl
  f129 := Tryz.func115.trans (congrArg some (by kernel_rfl))
  f284 := Tryz.func107.trans (congrArg some (by kernel_rfl))
  f317 := Tryz.func114.trans (congrArg some (by kernel_rfl))
  f318 := Tryz.func116.trans (congrArg some (by kernel_rfl))
  t0 := Tryz.underlying0
  a0 := Tryz.isAgg0
  z0 := Tryz.sizeOf0
  v0 := Tryz.zeroValue0
  t3 := Tryz.underlying3
  a3 := Tryz.isAgg3
  z3 := Tryz.sizeOf3
  v3 := Tryz.zeroValue3
  t4 := Tryz.underlying4
  a4 := Tryz.isAgg4
  z4 := Tryz.sizeOf4
  v4 := Tryz.zeroValue4
  t5 := Tryz.underlying5
  a5 := Tryz.isAgg5
  z5 := Tryz.sizeOf5
  v5 := Tryz.zeroValue5
  t9 := Tryz.underlying9
  a9 := Tryz.isAgg9
  z9 := Tryz.sizeOf9
  v9 := Tryz.zeroValue9
  t46 := Tryz.underlying76
  a46 := Tryz.isAgg76
  z46 := Tryz.sizeOf76
  v46 := Tryz.zeroValue76
  t53 := Tryz.underlying98
  a53 := Tryz.isAgg98
  z53 := Tryz.sizeOf98
  v53 := Tryz.zeroValue98
  t212 := Tryz.underlying107
  a212 := Tryz.isAgg107
  z212 := Tryz.sizeOf107
  v212 := Tryz.zeroValue107
  g17 := by kernel_rfl
  i0 := by kernel_rfl
  i3 := by kernel_rfl
  i4 := by kernel_rfl
  i5 := by kernel_rfl
  i9 := by kernel_rfl
  i46 := by kernel_rfl
  i53 := by kernel_rfl
  i212 := by kernel_rfl
  m17 := by kernel_rfl }
open Go.Lib in
/-- internal/strconv.numDigits, at a d that is not 0: THE NUMBER OF d's DECIMAL DIGITS. The world is as it was. (LAID: no walk: one application.) -/
theorem Tryz.internal_strconv_numDigits (u : Nat) (h1 : 1 ≤ u) (h2 : u < 18446744073709551616) (w : World) (htab : Lib.TabIs Tryz.prog w "internal/strconv.uint64pow10" .u64 Lib.pow10Tab) :
    Calls Tryz.prog 107 #[.int .u64 u] w fun e w' => e = .returned (.int .i64 (Lib.nDigits u)) ∧ w' = w := Any.internal_strconv_numDigits Tryz.laysM284 u h1 h2 w htab
def Tryz.lays285_ren : Go.Shelf.Ren := ⟨fun | 285 => 108 | n => n, fun | 37 => 24 | 53 => 98 | 3 => 3 | 4 => 4 | 51 => 75 | 9 => 9 | 5 => 5 | 0 => 0 | n => n, fun | n => n⟩
theorem Tryz.lays285 : Go.Proofs.Lays.n285 Tryz.prog Tryz.lays285_ren := {
  mixed := by kernel_rfl
  f285 := Tryz.func108.trans (congrArg some (by kernel_rfl))
  t0 := Tryz.underlying0
  a0 := Tryz.isAgg0
  z0 := Tryz.sizeOf0
  v0 := Tryz.zeroValue0
  t3 := Tryz.underlying3
  a3 := Tryz.isAgg3
  z3 := Tryz.sizeOf3
  v3 := Tryz.zeroValue3
  t4 := Tryz.underlying4
  a4 := Tryz.isAgg4
  z4 := Tryz.sizeOf4
  v4 := Tryz.zeroValue4
  t5 := Tryz.underlying5
  a5 := Tryz.isAgg5
  z5 := Tryz.sizeOf5
  v5 := Tryz.zeroValue5
  t9 := Tryz.underlying9
  a9 := Tryz.isAgg9
  z9 := Tryz.sizeOf9
  v9 := Tryz.zeroValue9
  t37 := Tryz.underlying24
  a37 := Tryz.isAgg24
  z37 := Tryz.sizeOf24
  v37 := Tryz.zeroValue24
  t51 := Tryz.underlying75
  a51 := Tryz.isAgg75
  z51 := Tryz.sizeOf75
  v51 := Tryz.zeroValue75
  t53 := Tryz.underlying98
  a53 := Tryz.isAgg98
  z53 := Tryz.sizeOf98
  v53 := Tryz.zeroValue98 }
open Go.RowKit Go.Sort Go.Lib in
/-- internal/strconv.formatBase10: "formatBase10 formats the decimal representation of u into a. The caller is responsible for ensuring that a is big enough to hold u. If a is too big, leading zeros will be filled in as needed.": THE ROW HOLDS u's DIGITS ('FmtInv .. 0 ..': every place t holds 'dg u (len - 1 - t)'); all else is as it was but for the count of draws. (LAID: no walk: one application.) -/
theorem Tryz.internal_strconv_formatBase10 (blk off cap : Nat) (u : Nat) (d : Array UInt8) (w : World) (hH : Holds (fun (b : UInt8) => Value.int .u8 (b.toNat : Int)) w blk off d) (hu : u < 10 ^ d.size) (hu64 : u < 18446744073709551616) (hsz : d.size < 4611686018427387904) :
    Calls Tryz.prog 108 #[.slice (some ⟨blk, off, none⟩) d.size cap, .int .u64 u] w fun e w' =>
      e = .returned (.tuple #[]) ∧ ∃ (n v' : Nat) (dk : Array UInt8), w' = (putRow (fun (b : UInt8) => Value.int .u8 (b.toNat : Int)) w blk off dk).drewN n ∧ FmtInv d.size u 0 v' dk := Any.internal_strconv_formatBase10 Tryz.lays285 blk off cap u d w hH hu hu64 hsz
def Tryz.laysM246_ren : Go.Shelf.Ren := ⟨fun | 246 => 97 | 283 => 106 | 284 => 107 | 285 => 108 | 286 => 109 | 129 => 115 | 317 => 114 | 318 => 116 | 319 => 117 | 320 => 118 | 337 => 119 | 338 => 120 | n => n, fun | 2 => 2 | 3 => 3 | 9 => 9 | 4 => 4 | 171 => 97 | 0 => 0 | 53 => 98 | 37 => 24 | 5 => 5 | 173 => 101 | 212 => 107 | 51 => 75 | 20 => 20 | 213 => 108 | 46 => 76 | 232 => 112 | 233 => 113 | n => n, fun | 17 => 3 | 18 => 4 | 19 => 5 | n => n⟩
theorem Tryz.laysM246 : Go.Proofs.LaysM.n246 Tryz.prog Tryz.laysM246_ren := {
  mixed := by kernel_rfl
  f129 := Tryz.func115.trans (congrArg some (by kernel_rfl))
  f246 := Tryz.func97.trans (congrArg some (by kernel_rfl))
  f283 := Tryz.func106.trans (congrArg some (by kernel_rfl))
  f284 := Tryz.func107.trans (congrArg some (by kernel_rfl))
  f285 := Tryz.func108.trans (congrArg some (by kernel_rfl))
  f286 := Tryz.func109.trans (congrArg some (by kernel_rfl))
  f317 := Tryz.func114.trans (congrArg some (by kernel_rfl))
  f318 := Tryz.func116.trans (congrArg some (by kernel_rfl))
  f319 := Tryz.func117.trans (congrArg some (by kernel_rfl))
  f320 := Tryz.func118.trans (congrArg some (by kernel_rfl))
  f337 := Tryz.func119.trans (congrArg some (by kernel_rfl))
  f338 := Tryz.func120.trans (congrArg some (by kernel_rfl))
  t0 := Tryz.underlying0
  a0 := Tryz.isAgg0
  z0 := Tryz.sizeOf0
  v0 := Tryz.zeroValue0
  t2 := Tryz.underlying2
  a2 := Tryz.isAgg2
  z2 := Tryz.sizeOf2
  v2 := Tryz.zeroValue2
  t3 := Tryz.underlying3
  a3 := Tryz.isAgg3
  z3 := Tryz.sizeOf3
  v3 := Tryz.zeroValue3
  t4 := Tryz.underlying4
  a4 := Tryz.isAgg4
  z4 := Tryz.sizeOf4
  v4 := Tryz.zeroValue4
  t5 := Tryz.underlying5
  a5 := Tryz.isAgg5
  z5 := Tryz.sizeOf5
  v5 := Tryz.zeroValue5
  t9 := Tryz.underlying9
  a9 := Tryz.isAgg9
  z9 := Tryz.sizeOf9
  v9 := Tryz.zeroValue9
  t20 := Tryz.underlying20
  a20 := Tryz.isAgg20
  z20 := Tryz.sizeOf20
  v20 := Tryz.zeroValue20
  t37 := Tryz.underlying24
  a37 := Tryz.isAgg24
  z37 := Tryz.sizeOf24
  v37 := Tryz.zeroValue24
  t46 := Tryz.underlying76
  a46 := Tryz.isAgg76
  z46 := Tryz.sizeOf76
  v46 := Tryz.zeroValue76
  t51 := Tryz.underlying75
  a51 := Tryz.isAgg75
  z51 := Tryz.sizeOf75
  v51 := Tryz.zeroValue75
  t53 := Tryz.underlying98
  a53 := Tryz.isAgg98
  z53 := Tryz.sizeOf98
  v53 := Tryz.zeroValue98
  t171 := Tryz.underlying97
  a171 := Tryz.isAgg97
  z171 := Tryz.sizeOf97
  v171 := Tryz.zeroValue97
  t173 := Tryz.underlying101
  a173 := Tryz.isAgg101
  z173 := Tryz.sizeOf101
  v173 := Tryz.zeroValue101
  t212 := Tryz.underlying107
  a212 := Tryz.isAgg107
  z212 := Tryz.sizeOf107
  v212 := Tryz.zeroValue107
  t213 := Tryz.underlying108
  a213 := Tryz.isAgg108
  z213 := Tryz.sizeOf108
  t232 := Tryz.underlying112
  a232 := Tryz.isAgg112
  z232 := Tryz.sizeOf112
  v232 := Tryz.zeroValue112
  t233 := Tryz.underlying113
  a233 := Tryz.isAgg113
  z233 := Tryz.sizeOf113
  v233 := Tryz.zeroValue113
  g17 := by kernel_rfl
  g18 := by kernel_rfl
  g19 := by kernel_rfl
  i0 := by kernel_rfl
  i2 := by kernel_rfl
  i3 := by kernel_rfl
  i4 := by kernel_rfl
  i5 := by kernel_rfl
  i9 := by kernel_rfl
  i20 := by kernel_rfl
  i37 := by kernel_rfl
  i46 := by kernel_rfl
  i51 := by kernel_rfl
  i53 := by kernel_rfl
  i171 := by kernel_rfl
  i173 := by kernel_rfl
  i212 := by kernel_rfl
  i232 := by kernel_rfl
  i233 := by kernel_rfl
  m17 := by kernel_rfl
  m18 := by kernel_rfl
  m19 := by kernel_rfl }
open Go.RowKit Go.Sort Go.Lib in
/-- internal/strconv.FormatInt: "FormatInt returns the string representation of i in the given base": AT BASE 10: i's decimal numeral, for every int64. The world behind the call: the world before it, new blocks behind the heap, draws. (LAID: no walk: one application.) -/
theorem Tryz.internal_strconv_FormatInt_10 (n : Int) (h0 : -9223372036854775808 ≤ n) (h1 : n ≤ 9223372036854775807) (w : World) (htab : Lib.TabIs Tryz.prog w "internal/strconv.uint64pow10" .u64 Lib.pow10Tab) :
    Calls Tryz.prog 97 #[.int .i64 n, .int .i64 10] w fun e w' => e = .returned (.string ⟨(Lib.itoa n).toArray⟩) ∧ ∃ k os, w' = grow (w.drewN k) os := Any.internal_strconv_FormatInt_10 Tryz.laysM246 n h0 h1 w htab
def Tryz.lays246_ren : Go.Shelf.Ren := ⟨fun | 246 => 97 | 283 => 106 | 284 => 107 | 285 => 108 | 286 => 109 | 129 => 115 | 317 => 114 | 318 => 116 | 319 => 117 | 320 => 118 | 337 => 119 | 338 => 120 | n => n, fun | 2 => 2 | 3 => 3 | 9 => 9 | 4 => 4 | 171 => 97 | 0 => 0 | 53 => 98 | 37 => 24 | 5 => 5 | 173 => 101 | 212 => 107 | 51 => 75 | 20 => 20 | 213 => 108 | 46 => 76 | 232 => 112 | 233 => 113 | n => n, fun | 17 => 3 | 18 => 4 | 19 => 5 | n => n⟩
theorem Tryz.lays246 : Go.Proofs.Lays.n246 Tryz.prog Tryz.lays246_ren := {
  mixed := by kernel_rfl
  f129 := Tryz.func115.trans (congrArg some (by kernel_rfl))
  f246 := Tryz.func97.trans (congrArg some (by kernel_rfl))
  f283 := Tryz.func106.trans (congrArg some (by kernel_rfl))
  f284 := Tryz.func107.trans (congrArg some (by kernel_rfl))
  f285 := Tryz.func108.trans (congrArg some (by kernel_rfl))
  f286 := Tryz.func109.trans (congrArg some (by kernel_rfl))
  f317 := Tryz.func114.trans (congrArg some (by kernel_rfl))
  f318 := Tryz.func116.trans (congrArg some (by kernel_rfl))
  f319 := Tryz.func117.trans (congrArg some (by kernel_rfl))
  f320 := Tryz.func118.trans (congrArg some (by kernel_rfl))
  f337 := Tryz.func119.trans (congrArg some (by kernel_rfl))
  f338 := Tryz.func120.trans (congrArg some (by kernel_rfl))
  t0 := Tryz.underlying0
  a0 := Tryz.isAgg0
  z0 := Tryz.sizeOf0
  v0 := Tryz.zeroValue0
  t2 := Tryz.underlying2
  a2 := Tryz.isAgg2
  z2 := Tryz.sizeOf2
  v2 := Tryz.zeroValue2
  t3 := Tryz.underlying3
  a3 := Tryz.isAgg3
  z3 := Tryz.sizeOf3
  v3 := Tryz.zeroValue3
  t4 := Tryz.underlying4
  a4 := Tryz.isAgg4
  z4 := Tryz.sizeOf4
  v4 := Tryz.zeroValue4
  t5 := Tryz.underlying5
  a5 := Tryz.isAgg5
  z5 := Tryz.sizeOf5
  v5 := Tryz.zeroValue5
  t9 := Tryz.underlying9
  a9 := Tryz.isAgg9
  z9 := Tryz.sizeOf9
  v9 := Tryz.zeroValue9
  t20 := Tryz.underlying20
  a20 := Tryz.isAgg20
  z20 := Tryz.sizeOf20
  v20 := Tryz.zeroValue20
  t37 := Tryz.underlying24
  a37 := Tryz.isAgg24
  z37 := Tryz.sizeOf24
  v37 := Tryz.zeroValue24
  t46 := Tryz.underlying76
  a46 := Tryz.isAgg76
  z46 := Tryz.sizeOf76
  v46 := Tryz.zeroValue76
  t51 := Tryz.underlying75
  a51 := Tryz.isAgg75
  z51 := Tryz.sizeOf75
  v51 := Tryz.zeroValue75
  t53 := Tryz.underlying98
  a53 := Tryz.isAgg98
  z53 := Tryz.sizeOf98
  v53 := Tryz.zeroValue98
  t171 := Tryz.underlying97
  a171 := Tryz.isAgg97
  z171 := Tryz.sizeOf97
  v171 := Tryz.zeroValue97
  t173 := Tryz.underlying101
  a173 := Tryz.isAgg101
  z173 := Tryz.sizeOf101
  v173 := Tryz.zeroValue101
  t212 := Tryz.underlying107
  a212 := Tryz.isAgg107
  z212 := Tryz.sizeOf107
  v212 := Tryz.zeroValue107
  t213 := Tryz.underlying108
  a213 := Tryz.isAgg108
  z213 := Tryz.sizeOf108
  t232 := Tryz.underlying112
  a232 := Tryz.isAgg112
  z232 := Tryz.sizeOf112
  v232 := Tryz.zeroValue112
  t233 := Tryz.underlying113
  a233 := Tryz.isAgg113
  z233 := Tryz.sizeOf113
  v233 := Tryz.zeroValue113
  g17 := by kernel_rfl
  g18 := by kernel_rfl
  g19 := by kernel_rfl }
open Go.RowKit Go.Sort Go.Lib in
/-- THE ROAD WITHOUT THE TABLE: 0 <= i < 100: two constants are read, nothing is laid: no premise on the world, and the world is as it was. (LAID: no walk: one application.) -/
theorem Tryz.internal_strconv_FormatInt_10_small (i : Nat) (hi : i < 100) (w : World) :
    Calls Tryz.prog 97 #[.int .i64 i, .int .i64 10] w fun e w' => e = .returned (.string ⟨(Lib.decDigits i).toArray⟩) ∧ w' = w := Any.internal_strconv_FormatInt_10_small Tryz.lays246 i hi w
def Tryz.laysM243_ren : Go.Shelf.Ren := ⟨fun | 243 => 83 | 246 => 97 | 283 => 106 | 284 => 107 | 285 => 108 | 286 => 109 | 129 => 115 | 317 => 114 | 318 => 116 | 319 => 117 | 320 => 118 | 337 => 119 | 338 => 120 | n => n, fun | 3 => 3 | 9 => 9 | 2 => 2 | 4 => 4 | 171 => 97 | 0 => 0 | 53 => 98 | 37 => 24 | 5 => 5 | 173 => 101 | 212 => 107 | 51 => 75 | 20 => 20 | 213 => 108 | 46 => 76 | 232 => 112 | 233 => 113 | n => n, fun | 17 => 3 | 18 => 4 | 19 => 5 | n => n⟩
theorem Tryz.laysM243 : Go.Proofs.LaysM.n243 Tryz.prog Tryz.laysM243_ren := {
  mixed := by kernel_rfl
  f129 := Tryz.func115.trans (congrArg some (by kernel_rfl))
  f243 := Tryz.func83.trans (congrArg some (by kernel_rfl))
  f246 := Tryz.func97.trans (congrArg some (by kernel_rfl))
  f283 := Tryz.func106.trans (congrArg some (by kernel_rfl))
  f284 := Tryz.func107.trans (congrArg some (by kernel_rfl))
  f285 := Tryz.func108.trans (congrArg some (by kernel_rfl))
  f286 := Tryz.func109.trans (congrArg some (by kernel_rfl))
  f317 := Tryz.func114.trans (congrArg some (by kernel_rfl))
  f318 := Tryz.func116.trans (congrArg some (by kernel_rfl))
  f319 := Tryz.func117.trans (congrArg some (by kernel_rfl))
  f320 := Tryz.func118.trans (congrArg some (by kernel_rfl))
  f337 := Tryz.func119.trans (congrArg some (by kernel_rfl))
  f338 := Tryz.func120.trans (congrArg some (by kernel_rfl))
  t0 := Tryz.underlying0
  a0 := Tryz.isAgg0
  z0 := Tryz.sizeOf0
  v0 := Tryz.zeroValue0
  t2 := Tryz.underlying2
  a2 := Tryz.isAgg2
  z2 := Tryz.sizeOf2
  v2 := Tryz.zeroValue2
  t3 := Tryz.underlying3
  a3 := Tryz.isAgg3
  z3 := Tryz.sizeOf3
  v3 := Tryz.zeroValue3
  t4 := Tryz.underlying4
  a4 := Tryz.isAgg4
  z4 := Tryz.sizeOf4
  v4 := Tryz.zeroValue4
  t5 := Tryz.underlying5
  a5 := Tryz.isAgg5
  z5 := Tryz.sizeOf5
  v5 := Tryz.zeroValue5
  t9 := Tryz.underlying9
  a9 := Tryz.isAgg9
  z9 := Tryz.sizeOf9
  v9 := Tryz.zeroValue9
  t20 := Tryz.underlying20
  a20 := Tryz.isAgg20
  z20 := Tryz.sizeOf20
  v20 := Tryz.zeroValue20
  t37 := Tryz.underlying24
  a37 := Tryz.isAgg24
  z37 := Tryz.sizeOf24
  v37 := Tryz.zeroValue24
  t46 := Tryz.underlying76
  a46 := Tryz.isAgg76
  z46 := Tryz.sizeOf76
  v46 := Tryz.zeroValue76
  t51 := Tryz.underlying75
  a51 := Tryz.isAgg75
  z51 := Tryz.sizeOf75
  v51 := Tryz.zeroValue75
  t53 := Tryz.underlying98
  a53 := Tryz.isAgg98
  z53 := Tryz.sizeOf98
  v53 := Tryz.zeroValue98
  t171 := Tryz.underlying97
  a171 := Tryz.isAgg97
  z171 := Tryz.sizeOf97
  v171 := Tryz.zeroValue97
  t173 := Tryz.underlying101
  a173 := Tryz.isAgg101
  z173 := Tryz.sizeOf101
  v173 := Tryz.zeroValue101
  t212 := Tryz.underlying107
  a212 := Tryz.isAgg107
  z212 := Tryz.sizeOf107
  v212 := Tryz.zeroValue107
  t213 := Tryz.underlying108
  a213 := Tryz.isAgg108
  z213 := Tryz.sizeOf108
  t232 := Tryz.underlying112
  a232 := Tryz.isAgg112
  z232 := Tryz.sizeOf112
  v232 := Tryz.zeroValue112
  t233 := Tryz.underlying113
  a233 := Tryz.isAgg113
  z233 := Tryz.sizeOf113
  v233 := Tryz.zeroValue113
  g17 := by kernel_rfl
  g18 := by kernel_rfl
  g19 := by kernel_rfl
  i0 := by kernel_rfl
  i2 := by kernel_rfl
  i3 := by kernel_rfl
  i4 := by kernel_rfl
  i5 := by kernel_rfl
  i9 := by kernel_rfl
  i20 := by kernel_rfl
  i37 := by kernel_rfl
  i46 := by kernel_rfl
  i51 := by kernel_rfl
  i53 := by kernel_rfl
  i171 := by kernel_rfl
  i173 := by kernel_rfl
  i212 := by kernel_rfl
  i232 := by kernel_rfl
  i233 := by kernel_rfl
  m17 := by kernel_rfl
  m18 := by kernel_rfl
  m19 := by kernel_rfl }
open Go.RowKit Go.Sort Go.Lib in
/-- internal/strconv.Itoa: "Itoa is equivalent to FormatInt(int64(i), 10).": i's decimal numeral, for every int. (LAID: no walk: one application.) -/
theorem Tryz.internal_strconv_Itoa (n : Int) (h0 : -9223372036854775808 ≤ n) (h1 : n ≤ 9223372036854775807) (w : World) (htab : Lib.TabIs Tryz.prog w "internal/strconv.uint64pow10" .u64 Lib.pow10Tab) :
    Calls Tryz.prog 83 #[.int .i64 n] w fun e w' => e = .returned (.string ⟨(Lib.itoa n).toArray⟩) ∧ ∃ k os, w' = grow (w.drewN k) os := Any.internal_strconv_Itoa Tryz.laysM243 n h0 h1 w htab
def Tryz.lays243_ren : Go.Shelf.Ren := ⟨fun | 243 => 83 | 246 => 97 | 283 => 106 | 284 => 107 | 285 => 108 | 286 => 109 | 129 => 115 | 317 => 114 | 318 => 116 | 319 => 117 | 320 => 118 | 337 => 119 | 338 => 120 | n => n, fun | 3 => 3 | 9 => 9 | 2 => 2 | 4 => 4 | 171 => 97 | 0 => 0 | 53 => 98 | 37 => 24 | 5 => 5 | 173 => 101 | 212 => 107 | 51 => 75 | 20 => 20 | 213 => 108 | 46 => 76 | 232 => 112 | 233 => 113 | n => n, fun | 17 => 3 | 18 => 4 | 19 => 5 | n => n⟩
theorem Tryz.lays243 : Go.Proofs.Lays.n243 Tryz.prog Tryz.lays243_ren := {
  mixed := by kernel_rfl
  f129 := Tryz.func115.trans (congrArg some (by kernel_rfl))
  f243 := Tryz.func83.trans (congrArg some (by kernel_rfl))
  f246 := Tryz.func97.trans (congrArg some (by kernel_rfl))
  f283 := Tryz.func106.trans (congrArg some (by kernel_rfl))
  f284 := Tryz.func107.trans (congrArg some (by kernel_rfl))
  f285 := Tryz.func108.trans (congrArg some (by kernel_rfl))
  f286 := Tryz.func109.trans (congrArg some (by kernel_rfl))
  f317 := Tryz.func114.trans (congrArg some (by kernel_rfl))
  f318 := Tryz.func116.trans (congrArg some (by kernel_rfl))
  f319 := Tryz.func117.trans (congrArg some (by kernel_rfl))
  f320 := Tryz.func118.trans (congrArg some (by kernel_rfl))
  f337 := Tryz.func119.trans (congrArg some (by kernel_rfl))
  f338 := Tryz.func120.trans (congrArg some (by kernel_rfl))
  t0 := Tryz.underlying0
  a0 := Tryz.isAgg0
  z0 := Tryz.sizeOf0
  v0 := Tryz.zeroValue0
  t2 := Tryz.underlying2
  a2 := Tryz.isAgg2
  z2 := Tryz.sizeOf2
  v2 := Tryz.zeroValue2
  t3 := Tryz.underlying3
  a3 := Tryz.isAgg3
  z3 := Tryz.sizeOf3
  v3 := Tryz.zeroValue3
  t4 := Tryz.underlying4
  a4 := Tryz.isAgg4
  z4 := Tryz.sizeOf4
  v4 := Tryz.zeroValue4
  t5 := Tryz.underlying5
  a5 := Tryz.isAgg5
  z5 := Tryz.sizeOf5
  v5 := Tryz.zeroValue5
  t9 := Tryz.underlying9
  a9 := Tryz.isAgg9
  z9 := Tryz.sizeOf9
  v9 := Tryz.zeroValue9
  t20 := Tryz.underlying20
  a20 := Tryz.isAgg20
  z20 := Tryz.sizeOf20
  v20 := Tryz.zeroValue20
  t37 := Tryz.underlying24
  a37 := Tryz.isAgg24
  z37 := Tryz.sizeOf24
  v37 := Tryz.zeroValue24
  t46 := Tryz.underlying76
  a46 := Tryz.isAgg76
  z46 := Tryz.sizeOf76
  v46 := Tryz.zeroValue76
  t51 := Tryz.underlying75
  a51 := Tryz.isAgg75
  z51 := Tryz.sizeOf75
  v51 := Tryz.zeroValue75
  t53 := Tryz.underlying98
  a53 := Tryz.isAgg98
  z53 := Tryz.sizeOf98
  v53 := Tryz.zeroValue98
  t171 := Tryz.underlying97
  a171 := Tryz.isAgg97
  z171 := Tryz.sizeOf97
  v171 := Tryz.zeroValue97
  t173 := Tryz.underlying101
  a173 := Tryz.isAgg101
  z173 := Tryz.sizeOf101
  v173 := Tryz.zeroValue101
  t212 := Tryz.underlying107
  a212 := Tryz.isAgg107
  z212 := Tryz.sizeOf107
  v212 := Tryz.zeroValue107
  t213 := Tryz.underlying108
  a213 := Tryz.isAgg108
  z213 := Tryz.sizeOf108
  t232 := Tryz.underlying112
  a232 := Tryz.isAgg112
  z232 := Tryz.sizeOf112
  v232 := Tryz.zeroValue112
  t233 := Tryz.underlying113
  a233 := Tryz.isAgg113
  z233 := Tryz.sizeOf113
  v233 := Tryz.zeroValue113
  g17 := by kernel_rfl
  g18 := by kernel_rfl
  g19 := by kernel_rfl }
open Go.RowKit Go.Sort Go.Lib in
/-- THE ROAD WITHOUT THE TABLE: 0 <= i < 100. (LAID: no walk: one application.) -/
theorem Tryz.internal_strconv_Itoa_small (i : Nat) (hi : i < 100) (w : World) :
    Calls Tryz.prog 83 #[.int .i64 i] w fun e w' => e = .returned (.string ⟨(Lib.decDigits i).toArray⟩) ∧ w' = w := Any.internal_strconv_Itoa_small Tryz.lays243 i hi w
def Tryz.laysM171_ren : Go.Shelf.Ren := ⟨fun | 171 => 72 | 243 => 83 | 246 => 97 | 283 => 106 | 284 => 107 | 285 => 108 | 286 => 109 | 129 => 115 | 317 => 114 | 318 => 116 | 319 => 117 | 320 => 118 | 337 => 119 | 338 => 120 | n => n, fun | 3 => 3 | 9 => 9 | 2 => 2 | 4 => 4 | 171 => 97 | 0 => 0 | 53 => 98 | 37 => 24 | 5 => 5 | 173 => 101 | 212 => 107 | 51 => 75 | 20 => 20 | 213 => 108 | 46 => 76 | 232 => 112 | 233 => 113 | n => n, fun | 17 => 3 | 18 => 4 | 19 => 5 | n => n⟩
theorem Tryz.laysM171 : Go.Proofs.LaysM.n171 Tryz.prog Tryz.laysM171_ren := {
  mixed := by kernel_rfl
  f129 := Tryz.func115.trans (congrArg some (by kernel_rfl))
  f171 := Tryz.func72.trans (congrArg some (by kernel_rfl))
  f243 := Tryz.func83.trans (congrArg some (by kernel_rfl))
  f246 := Tryz.func97.trans (congrArg some (by kernel_rfl))
  f283 := Tryz.func106.trans (congrArg some (by kernel_rfl))
  f284 := Tryz.func107.trans (congrArg some (by kernel_rfl))
  f285 := Tryz.func108.trans (congrArg some (by kernel_rfl))
  f286 := Tryz.func109.trans (congrArg some (by kernel_rfl))
  f317 := Tryz.func114.trans (congrArg some (by kernel_rfl))
  f318 := Tryz.func116.trans (congrArg some (by kernel_rfl))
  f319 := Tryz.func117.trans (congrArg some (by kernel_rfl))
  f320 := Tryz.func118.trans (congrArg some (by kernel_rfl))
  f337 := Tryz.func119.trans (congrArg some (by kernel_rfl))
  f338 := Tryz.func120.trans (congrArg some (by kernel_rfl))
  t0 := Tryz.underlying0
  a0 := Tryz.isAgg0
  z0 := Tryz.sizeOf0
  v0 := Tryz.zeroValue0
  t2 := Tryz.underlying2
  a2 := Tryz.isAgg2
  z2 := Tryz.sizeOf2
  v2 := Tryz.zeroValue2
  t3 := Tryz.underlying3
  a3 := Tryz.isAgg3
  z3 := Tryz.sizeOf3
  v3 := Tryz.zeroValue3
  t4 := Tryz.underlying4
  a4 := Tryz.isAgg4
  z4 := Tryz.sizeOf4
  v4 := Tryz.zeroValue4
  t5 := Tryz.underlying5
  a5 := Tryz.isAgg5
  z5 := Tryz.sizeOf5
  v5 := Tryz.zeroValue5
  t9 := Tryz.underlying9
  a9 := Tryz.isAgg9
  z9 := Tryz.sizeOf9
  v9 := Tryz.zeroValue9
  t20 := Tryz.underlying20
  a20 := Tryz.isAgg20
  z20 := Tryz.sizeOf20
  v20 := Tryz.zeroValue20
  t37 := Tryz.underlying24
  a37 := Tryz.isAgg24
  z37 := Tryz.sizeOf24
  v37 := Tryz.zeroValue24
  t46 := Tryz.underlying76
  a46 := Tryz.isAgg76
  z46 := Tryz.sizeOf76
  v46 := Tryz.zeroValue76
  t51 := Tryz.underlying75
  a51 := Tryz.isAgg75
  z51 := Tryz.sizeOf75
  v51 := Tryz.zeroValue75
  t53 := Tryz.underlying98
  a53 := Tryz.isAgg98
  z53 := Tryz.sizeOf98
  v53 := Tryz.zeroValue98
  t171 := Tryz.underlying97
  a171 := Tryz.isAgg97
  z171 := Tryz.sizeOf97
  v171 := Tryz.zeroValue97
  t173 := Tryz.underlying101
  a173 := Tryz.isAgg101
  z173 := Tryz.sizeOf101
  v173 := Tryz.zeroValue101
  t212 := Tryz.underlying107
  a212 := Tryz.isAgg107
  z212 := Tryz.sizeOf107
  v212 := Tryz.zeroValue107
  t213 := Tryz.underlying108
  a213 := Tryz.isAgg108
  z213 := Tryz.sizeOf108
  t232 := Tryz.underlying112
  a232 := Tryz.isAgg112
  z232 := Tryz.sizeOf112
  v232 := Tryz.zeroValue112
  t233 := Tryz.underlying113
  a233 := Tryz.isAgg113
  z233 := Tryz.sizeOf113
  v233 := Tryz.zeroValue113
  g17 := by kernel_rfl
  g18 := by kernel_rfl
  g19 := by kernel_rfl
  i0 := by kernel_rfl
  i2 := by kernel_rfl
  i3 := by kernel_rfl
  i4 := by kernel_rfl
  i5 := by kernel_rfl
  i9 := by kernel_rfl
  i20 := by kernel_rfl
  i37 := by kernel_rfl
  i46 := by kernel_rfl
  i51 := by kernel_rfl
  i53 := by kernel_rfl
  i171 := by kernel_rfl
  i173 := by kernel_rfl
  i212 := by kernel_rfl
  i232 := by kernel_rfl
  i233 := by kernel_rfl
  m17 := by kernel_rfl
  m18 := by kernel_rfl
  m19 := by kernel_rfl }
open Go.RowKit Go.Sort Go.Lib in
/-- strconv.Itoa: "Itoa is equivalent to FormatInt(int64(i), 10).": i's DECIMAL NUMERAL ('Lib.itoa': a '-' where i is negative, then the digits), FOR EVERY int. The world behind the call: the world before it, new blocks behind the heap (the library's 'var a [24]byte'), draws. (LAID: no walk: one application.) -/
theorem Tryz.strconv_Itoa (n : Int) (h0 : -9223372036854775808 ≤ n) (h1 : n ≤ 9223372036854775807) (w : World) (htab : Lib.TabIs Tryz.prog w "internal/strconv.uint64pow10" .u64 Lib.pow10Tab) :
    Calls Tryz.prog 72 #[.int .i64 n] w fun e w' => e = .returned (.string ⟨(Lib.itoa n).toArray⟩) ∧ ∃ k os, w' = grow (w.drewN k) os := Any.strconv_Itoa Tryz.laysM171 n h0 h1 w htab
def Tryz.lays171_ren : Go.Shelf.Ren := ⟨fun | 171 => 72 | 243 => 83 | 246 => 97 | 283 => 106 | 284 => 107 | 285 => 108 | 286 => 109 | 129 => 115 | 317 => 114 | 318 => 116 | 319 => 117 | 320 => 118 | 337 => 119 | 338 => 120 | n => n, fun | 3 => 3 | 9 => 9 | 2 => 2 | 4 => 4 | 171 => 97 | 0 => 0 | 53 => 98 | 37 => 24 | 5 => 5 | 173 => 101 | 212 => 107 | 51 => 75 | 20 => 20 | 213 => 108 | 46 => 76 | 232 => 112 | 233 => 113 | n => n, fun | 17 => 3 | 18 => 4 | 19 => 5 | n => n⟩
theorem Tryz.lays171 : Go.Proofs.Lays.n171 Tryz.prog Tryz.lays171_ren := {
  mixed := by kernel_rfl
  f129 := Tryz.func115.trans (congrArg some (by kernel_rfl))
  f171 := Tryz.func72.trans (congrArg some (by kernel_rfl))
  f243 := Tryz.func83.trans (congrArg some (by kernel_rfl))
  f246 := Tryz.func97.trans (congrArg some (by kernel_rfl))
  f283 := Tryz.func106.trans (congrArg some (by kernel_rfl))
  f284 := Tryz.func107.trans (congrArg some (by kernel_rfl))
  f285 := Tryz.func108.trans (congrArg some (by kernel_rfl))
  f286 := Tryz.func109.trans (congrArg some (by kernel_rfl))
  f317 := Tryz.func114.trans (congrArg some (by kernel_rfl))
  f318 := Tryz.func116.trans (congrArg some (by kernel_rfl))
  f319 := Tryz.func117.trans (congrArg some (by kernel_rfl))
  f320 := Tryz.func118.trans (congrArg some (by kernel_rfl))
  f337 := Tryz.func119.trans (congrArg some (by kernel_rfl))
  f338 := Tryz.func120.trans (congrArg some (by kernel_rfl))
  t0 := Tryz.underlying0
  a0 := Tryz.isAgg0
  z0 := Tryz.sizeOf0
  v0 := Tryz.zeroValue0
  t2 := Tryz.underlying2
  a2 := Tryz.isAgg2
  z2 := Tryz.sizeOf2
  v2 := Tryz.zeroValue2
  t3 := Tryz.underlying3
  a3 := Tryz.isAgg3
  z3 := Tryz.sizeOf3
  v3 := Tryz.zeroValue3
  t4 := Tryz.underlying4
  a4 := Tryz.isAgg4
  z4 := Tryz.sizeOf4
  v4 := Tryz.zeroValue4
  t5 := Tryz.underlying5
  a5 := Tryz.isAgg5
  z5 := Tryz.sizeOf5
  v5 := Tryz.zeroValue5
  t9 := Tryz.underlying9
  a9 := Tryz.isAgg9
  z9 := Tryz.sizeOf9
  v9 := Tryz.zeroValue9
  t20 := Tryz.underlying20
  a20 := Tryz.isAgg20
  z20 := Tryz.sizeOf20
  v20 := Tryz.zeroValue20
  t37 := Tryz.underlying24
  a37 := Tryz.isAgg24
  z37 := Tryz.sizeOf24
  v37 := Tryz.zeroValue24
  t46 := Tryz.underlying76
  a46 := Tryz.isAgg76
  z46 := Tryz.sizeOf76
  v46 := Tryz.zeroValue76
  t51 := Tryz.underlying75
  a51 := Tryz.isAgg75
  z51 := Tryz.sizeOf75
  v51 := Tryz.zeroValue75
  t53 := Tryz.underlying98
  a53 := Tryz.isAgg98
  z53 := Tryz.sizeOf98
  v53 := Tryz.zeroValue98
  t171 := Tryz.underlying97
  a171 := Tryz.isAgg97
  z171 := Tryz.sizeOf97
  v171 := Tryz.zeroValue97
  t173 := Tryz.underlying101
  a173 := Tryz.isAgg101
  z173 := Tryz.sizeOf101
  v173 := Tryz.zeroValue101
  t212 := Tryz.underlying107
  a212 := Tryz.isAgg107
  z212 := Tryz.sizeOf107
  v212 := Tryz.zeroValue107
  t213 := Tryz.underlying108
  a213 := Tryz.isAgg108
  z213 := Tryz.sizeOf108
  t232 := Tryz.underlying112
  a232 := Tryz.isAgg112
  z232 := Tryz.sizeOf112
  v232 := Tryz.zeroValue112
  t233 := Tryz.underlying113
  a233 := Tryz.isAgg113
  z233 := Tryz.sizeOf113
  v233 := Tryz.zeroValue113
  g17 := by kernel_rfl
  g18 := by kernel_rfl
  g19 := by kernel_rfl }
open Go.RowKit Go.Sort Go.Lib in
/-- THE ROAD WITHOUT THE TABLE: 0 <= i < 100: NO PREMISE ON THE WORLD, AND THE WORLD IS AS IT WAS: a row that keeps its argument in that range need list no table ('laid = []'). (LAID: no walk: one application.) -/
theorem Tryz.strconv_Itoa_small (i : Nat) (hi : i < 100) (w : World) :
    Calls Tryz.prog 72 #[.int .i64 i] w fun e w' => e = .returned (.string ⟨(Lib.decDigits i).toArray⟩) ∧ w' = w := Any.strconv_Itoa_small Tryz.lays171 i hi w
def Tryz.laysM181_ren : Go.Shelf.Ren := ⟨fun | 181 => 84 | n => n, fun | 130 => 65 | 3 => 3 | 0 => 0 | 93 => 49 | 37 => 24 | 91 => 47 | 5 => 5 | n => n, fun | n => n⟩
theorem Tryz.laysM181 : Go.Proofs.LaysM.n181 Tryz.prog Tryz.laysM181_ren := {
  mixed := by kernel_rfl
  f181 := Tryz.func84.trans (congrArg some (by kernel_rfl))
  t0 := Tryz.underlying0
  a0 := Tryz.isAgg0
  z0 := Tryz.sizeOf0
  v0 := Tryz.zeroValue0
  t3 := Tryz.underlying3
  a3 := Tryz.isAgg3
  z3 := Tryz.sizeOf3
  v3 := Tryz.zeroValue3
  t37 := Tryz.underlying24
  a37 := Tryz.isAgg24
  z37 := Tryz.sizeOf24
  v37 := Tryz.zeroValue24
  t93 := Tryz.underlying49
  a93 := Tryz.isAgg49
  z93 := Tryz.sizeOf49
  v93 := Tryz.zeroValue49
  t130 := Tryz.underlying65
  a130 := Tryz.isAgg65
  z130 := Tryz.sizeOf65
  v130 := Tryz.zeroValue65
  t5 := Tryz.underlying5
  a5 := Tryz.isAgg5
  z5 := Tryz.sizeOf5
  v5 := Tryz.zeroValue5
  t91 := Tryz.underlying47
  a91 := Tryz.isAgg47
  z91 := Tryz.sizeOf47
  v91 := Tryz.zeroValue47
  i0 := by kernel_rfl
  i3 := by kernel_rfl
  i5 := by kernel_rfl
  i37 := by kernel_rfl
  i91 := by kernel_rfl
  i93 := by kernel_rfl
  i130 := by kernel_rfl }
open Go.RowKit in
/-- (*bytes.Buffer).Len: "Len returns the number of bytes of the unread portion of the buffer; b.Len() == len(b.Bytes()).": the world is as it was but for the count of draws (the statement has two reads: its order is drawn). (LAID: no walk: one application.) -/
theorem Tryz.Buffer_Len (B b : Nat) (bs : List Value) (w : World) (h : Lib.IsBuffer 49 5 B b bs w) :
    Calls Tryz.prog 84 #[.pointer (some ⟨b, 0, none⟩)] w fun e w' => e = .returned (.int .i64 bs.length) ∧ ∃ n, w' = w.drewN n := Any.Buffer_Len Tryz.laysM181 B b bs w h
def Tryz.laysM251_ren : Go.Shelf.Ren := ⟨fun | 251 => 74 | n => n, fun | 130 => 65 | 3 => 3 | 4 => 4 | 0 => 0 | 93 => 49 | 37 => 24 | 91 => 47 | 5 => 5 | n => n, fun | n => n⟩
theorem Tryz.laysM251 : Go.Proofs.LaysM.n251 Tryz.prog Tryz.laysM251_ren := {
  mixed := by kernel_rfl
  f251 := Tryz.func74.trans (congrArg some (by kernel_rfl))
  t0 := Tryz.underlying0
  a0 := Tryz.isAgg0
  z0 := Tryz.sizeOf0
  v0 := Tryz.zeroValue0
  t3 := Tryz.underlying3
  a3 := Tryz.isAgg3
  z3 := Tryz.sizeOf3
  v3 := Tryz.zeroValue3
  t4 := Tryz.underlying4
  a4 := Tryz.isAgg4
  z4 := Tryz.sizeOf4
  v4 := Tryz.zeroValue4
  t37 := Tryz.underlying24
  a37 := Tryz.isAgg24
  z37 := Tryz.sizeOf24
  v37 := Tryz.zeroValue24
  t93 := Tryz.underlying49
  a93 := Tryz.isAgg49
  z93 := Tryz.sizeOf49
  v93 := Tryz.zeroValue49
  t130 := Tryz.underlying65
  a130 := Tryz.isAgg65
  z130 := Tryz.sizeOf65
  v130 := Tryz.zeroValue65
  t5 := Tryz.underlying5
  a5 := Tryz.isAgg5
  z5 := Tryz.sizeOf5
  v5 := Tryz.zeroValue5
  t91 := Tryz.underlying47
  a91 := Tryz.isAgg47
  z91 := Tryz.sizeOf47
  v91 := Tryz.zeroValue47
  i0 := by kernel_rfl
  i3 := by kernel_rfl
  i4 := by kernel_rfl
  i5 := by kernel_rfl
  i37 := by kernel_rfl
  i91 := by kernel_rfl
  i93 := by kernel_rfl
  i130 := by kernel_rfl }
open Go.RowKit in
/-- (*bytes.Buffer).tryGrowByReslice: "tryGrowByReslice is an inlineable version of grow for the fast-case where the internal buffer only needs to be resliced. It returns the index where bytes should be written and whether it succeeded.": THERE IS ROOM: 'buf' is resliced to l + n. (LAID: no walk: one application.) -/
theorem Tryz.Buffer_tryGrow_room (b : Nat) (ao : Option Addr) (l cap n : Nat) (w : World) (c0 : w.cell? ⟨b, 0, none⟩ = some (.slice ao l cap)) (f0 : w.frozen? ⟨b, 0, none⟩ = false) (hlc : l ≤ cap) (hcap : cap ≤ maxLen) (hn : n ≤ cap - l) :
    Calls Tryz.prog 74 #[.pointer (some ⟨b, 0, none⟩), .int .i64 n] w fun e w' => e = .returned (.tuple #[.int .i64 l, .bool true]) ∧ w' = w.setCell ⟨b, 0, none⟩ (.slice ao (l + n) cap) := Any.Buffer_tryGrow_room Tryz.laysM251 b ao l cap n w c0 f0 hlc hcap hn
open Go.RowKit in
/-- .. THERE IS NONE: nothing turns. (LAID: no walk: one application.) -/
theorem Tryz.Buffer_tryGrow_none (b : Nat) (ao : Option Addr) (l cap n : Nat) (w : World) (c0 : w.cell? ⟨b, 0, none⟩ = some (.slice ao l cap)) (hlc : l ≤ cap) (hcap : cap ≤ maxLen) (hn : cap - l < n) :
    Calls Tryz.prog 74 #[.pointer (some ⟨b, 0, none⟩), .int .i64 n] w fun e w' => e = .returned (.tuple #[.int .i64 0, .bool false]) ∧ w' = w := Any.Buffer_tryGrow_none Tryz.laysM251 b ao l cap n w c0 hlc hcap hn
def Tryz.laysM324_ren : Go.Shelf.Ren := ⟨fun | 324 => 98 | n => n, fun | 20 => 20 | 4 => 4 | 75 => 51 | 0 => 0 | 80 => 55 | 9 => 9 | n => n, fun | 14 => 0 | n => n⟩
theorem Tryz.laysM324 : Go.Proofs.LaysM.n324 Tryz.prog Tryz.laysM324_ren := {
  mixed := by kernel_rfl
  f324 := Tryz.func98.trans (congrArg some (by kernel_rfl))
  t0 := Tryz.underlying0
  a0 := Tryz.isAgg0
  z0 := Tryz.sizeOf0
  v0 := Tryz.zeroValue0
  t4 := Tryz.underlying4
  a4 := Tryz.isAgg4
  z4 := Tryz.sizeOf4
  v4 := Tryz.zeroValue4
  t20 := Tryz.underlying20
  a20 := Tryz.isAgg20
  z20 := Tryz.sizeOf20
  v20 := Tryz.zeroValue20
  t75 := Tryz.underlying51
  a75 := Tryz.isAgg51
  z75 := Tryz.sizeOf51
  v75 := Tryz.zeroValue51
  g14 := by kernel_rfl
  t9 := Tryz.underlying9
  a9 := Tryz.isAgg9
  z9 := Tryz.sizeOf9
  v9 := Tryz.zeroValue9
  t80 := Tryz.underlying55
  a80 := Tryz.isAgg55
  z80 := Tryz.sizeOf55
  v80 := Tryz.zeroValue55
  i0 := by kernel_rfl
  i4 := by kernel_rfl
  i9 := by kernel_rfl
  i20 := by kernel_rfl
  i75 := by kernel_rfl
  i80 := by kernel_rfl
  m14 := by kernel_rfl }
theorem Tryz.growSlice_catch_idle (w : World) :
    CallsD Tryz.prog 98 #[] .returning w fun e u' w' => e = .returned (.tuple #[]) ∧ u' = .returning ∧ w' = w := Any.growSlice_catch_idle Tryz.laysM324 w
def Tryz.laysM290_ren : Go.Shelf.Ren := ⟨fun | 290 => 86 | 324 => 98 | n => n, fun | 37 => 24 | 3 => 3 | 0 => 0 | 4 => 4 | 20 => 20 | 75 => 51 | 5 => 5 | 80 => 55 | 9 => 9 | n => n, fun | 14 => 0 | n => n⟩
theorem Tryz.laysM290 : Go.Proofs.LaysM.n290 Tryz.prog Tryz.laysM290_ren := {
  mixed := by kernel_rfl
  f290 := Tryz.func86.trans (congrArg some (by kernel_rfl))
  f324 := Tryz.func98.trans (congrArg some (by kernel_rfl))
  t0 := Tryz.underlying0
  a0 := Tryz.isAgg0
  z0 := Tryz.sizeOf0
  v0 := Tryz.zeroValue0
  t3 := Tryz.underlying3
  a3 := Tryz.isAgg3
  z3 := Tryz.sizeOf3
  v3 := Tryz.zeroValue3
  t4 := Tryz.underlying4
  a4 := Tryz.isAgg4
  z4 := Tryz.sizeOf4
  v4 := Tryz.zeroValue4
  t20 := Tryz.underlying20
  a20 := Tryz.isAgg20
  z20 := Tryz.sizeOf20
  v20 := Tryz.zeroValue20
  t37 := Tryz.underlying24
  a37 := Tryz.isAgg24
  z37 := Tryz.sizeOf24
  v37 := Tryz.zeroValue24
  t75 := Tryz.underlying51
  a75 := Tryz.isAgg51
  z75 := Tryz.sizeOf51
  v75 := Tryz.zeroValue51
  g14 := by kernel_rfl
  t5 := Tryz.underlying5
  a5 := Tryz.isAgg5
  z5 := Tryz.sizeOf5
  v5 := Tryz.zeroValue5
  t9 := Tryz.underlying9
  a9 := Tryz.isAgg9
  z9 := Tryz.sizeOf9
  v9 := Tryz.zeroValue9
  t80 := Tryz.underlying55
  a80 := Tryz.isAgg55
  z80 := Tryz.sizeOf55
  v80 := Tryz.zeroValue55
  i0 := by kernel_rfl
  i3 := by kernel_rfl
  i4 := by kernel_rfl
  i5 := by kernel_rfl
  i9 := by kernel_rfl
  i20 := by kernel_rfl
  i37 := by kernel_rfl
  i75 := by kernel_rfl
  i80 := by kernel_rfl
  m14 := by kernel_rfl }
open Go.RowKit in
/-- bytes.growSlice: "growSlice grows b by n, preserving the original content of b.": OF A SLICE THAT LIES AT THE HEAD OF A ROW: a new row, number 'w.heap.size': it begins with b's l cells; its capacity has room for n more; whatever lay below is as it was. (LAID: no walk: one application.) -/
theorem Tryz.bytes_growSlice_row (g l c n : Nat) (cur : Array Value) (w : World) (hg : w.heap[g]? = some (.cells cur 5 (0, 0))) (hcs : cur.size = c) (hlc : l ≤ c) (hn : 1 ≤ n) (hlim : l + n ≤ 140737488355328) (hc2 : c ≤ 140737488355328) (h1 : ∀ v ∈ cur.toList.take l, v.oneCell' = true) :
    Calls Tryz.prog 86 #[.slice (some ⟨g, 0, none⟩) l c, .int .i64 n] w fun e w' => ∃ cap2 cells, e = .returned (.slice (some ⟨w.heap.size, 0, none⟩) l cap2) ∧ w'.heap[w.heap.size]? = some (.cells cells 5 (0, 0)) ∧
      cells.size = cap2 ∧ cells.toList.take l = cur.toList.take l ∧ l + n ≤ cap2 ∧ cap2 ≤ maxLen ∧ Below w.heap.size w w' := Any.bytes_growSlice_row Tryz.laysM290 g l c n cur w hg hcs hlc hn hlim hc2 h1
open Go.RowKit in
/-- .. OF THE NIL SLICE: a new row with room for n. (LAID: no walk: one application.) -/
theorem Tryz.bytes_growSlice_nil (n : Nat) (w : World) (hn : 1 ≤ n) (hlim : n ≤ 140737488355328) :
    Calls Tryz.prog 86 #[.slice none 0 0, .int .i64 n] w fun e w' => ∃ cap2 cells, e = .returned (.slice (some ⟨w.heap.size, 0, none⟩) 0 cap2) ∧ w'.heap[w.heap.size]? = some (.cells cells 5 (0, 0)) ∧
      cells.size = cap2 ∧ n ≤ cap2 ∧ cap2 ≤ maxLen ∧ Below w.heap.size w w' := Any.bytes_growSlice_nil Tryz.laysM290 n w hn hlim
def Tryz.laysM252_ren : Go.Shelf.Ren := ⟨fun | 252 => 75 | 181 => 84 | 184 => 85 | 251 => 74 | 290 => 86 | 324 => 98 | n => n, fun | 130 => 65 | 3 => 3 | 4 => 4 | 0 => 0 | 93 => 49 | 131 => 66 | 37 => 24 | 75 => 51 | 91 => 47 | 20 => 20 | 5 => 5 | 80 => 55 | 9 => 9 | n => n, fun | 14 => 0 | n => n⟩
theorem Tryz.laysM252 : Go.Proofs.LaysM.n252 Tryz.prog Tryz.laysM252_ren := {
  mixed := by kernel_rfl
  f181 := Tryz.func84.trans (congrArg some (by kernel_rfl))
  f184 := Tryz.func85.trans (congrArg some (by kernel_rfl))
  f251 := Tryz.func74.trans (congrArg some (by kernel_rfl))
  f252 := Tryz.func75.trans (congrArg some (by kernel_rfl))
  f290 := Tryz.func86.trans (congrArg some (by kernel_rfl))
  f324 := Tryz.func98.trans (congrArg some (by kernel_rfl))
  t0 := Tryz.underlying0
  a0 := Tryz.isAgg0
  z0 := Tryz.sizeOf0
  v0 := Tryz.zeroValue0
  t3 := Tryz.underlying3
  a3 := Tryz.isAgg3
  z3 := Tryz.sizeOf3
  v3 := Tryz.zeroValue3
  t4 := Tryz.underlying4
  a4 := Tryz.isAgg4
  z4 := Tryz.sizeOf4
  v4 := Tryz.zeroValue4
  t20 := Tryz.underlying20
  a20 := Tryz.isAgg20
  z20 := Tryz.sizeOf20
  v20 := Tryz.zeroValue20
  t37 := Tryz.underlying24
  a37 := Tryz.isAgg24
  z37 := Tryz.sizeOf24
  v37 := Tryz.zeroValue24
  t75 := Tryz.underlying51
  a75 := Tryz.isAgg51
  z75 := Tryz.sizeOf51
  v75 := Tryz.zeroValue51
  t91 := Tryz.underlying47
  a91 := Tryz.isAgg47
  z91 := Tryz.sizeOf47
  v91 := Tryz.zeroValue47
  t93 := Tryz.underlying49
  a93 := Tryz.isAgg49
  z93 := Tryz.sizeOf49
  v93 := Tryz.zeroValue49
  t130 := Tryz.underlying65
  a130 := Tryz.isAgg65
  z130 := Tryz.sizeOf65
  v130 := Tryz.zeroValue65
  t131 := Tryz.underlying66
  a131 := Tryz.isAgg66
  z131 := Tryz.sizeOf66
  v131 := Tryz.zeroValue66
  g14 := by kernel_rfl
  t5 := Tryz.underlying5
  a5 := Tryz.isAgg5
  z5 := Tryz.sizeOf5
  v5 := Tryz.zeroValue5
  t9 := Tryz.underlying9
  a9 := Tryz.isAgg9
  z9 := Tryz.sizeOf9
  v9 := Tryz.zeroValue9
  t80 := Tryz.underlying55
  a80 := Tryz.isAgg55
  z80 := Tryz.sizeOf55
  v80 := Tryz.zeroValue55
  i0 := by kernel_rfl
  i3 := by kernel_rfl
  i4 := by kernel_rfl
  i5 := by kernel_rfl
  i9 := by kernel_rfl
  i20 := by kernel_rfl
  i37 := by kernel_rfl
  i75 := by kernel_rfl
  i80 := by kernel_rfl
  i91 := by kernel_rfl
  i93 := by kernel_rfl
  i130 := by kernel_rfl
  i131 := by kernel_rfl
  m14 := by kernel_rfl }
open Go.RowKit in
/-- grow, WHERE THE BUFFER HOLDS A ROW, NO BYTE IN IT (behind a Reset), AND THE ROW HAS NO ROOM: growSlice. (THE TEXT OF 'Buffer_grow_row' WITH 0 FOR l, BY PROGRAM: the walk parts on 'm == 0' and writes 0 for l throughout the goal: facts that still say l then do not strike: so l is laid in ahead of the walk.) (LAID: no walk: one application.) -/
theorem Tryz.Buffer_grow_row0 (B b g cap n : Nat) (lr : Int) (cur : Array Value) (bs : List Value) (w : World) (hB : B ≤ b) (hBw : B ≤ w.heap.size) (hbk : w.heap[b]? = some (.cells #[.slice (some ⟨g, 0, none⟩) 0 cap, .int .i64 0, .int .i8 lr] 49 (0, 0))) (hl : bs.length = 0) (hBg : B ≤ g) (hg : w.heap[g]? = some (.cells cur 5 (0, 0))) (hlc : 0 ≤ cap) (hcm : cap ≤ maxLen) (hcs : cur.size = cap) (htake : cur.toList.take 0 = bs) (hgb : g ≠ b) (h1 : ∀ v ∈ bs, v.oneCell' = true) (hn : 1 ≤ n) (hroom : cap - 0 < n) (hlim : 0 + n ≤ 140737488355328) :
    Calls Tryz.prog 75 #[.pointer (some ⟨b, 0, none⟩), .int .i64 n] w fun e w' => e = .returned (.int .i64 0) ∧ ∃ xs, xs.length = n ∧ Lib.IsBuffer 49 5 B b (bs ++ xs) w' ∧ Below B w w' := Any.Buffer_grow_row0 Tryz.laysM252 B b g cap n lr cur bs w hB hBw hbk hl hBg hg hlc hcm hcs htake hgb h1 hn hroom hlim
open Go.RowKit in
/-- grow, WHERE THE BUFFER HOLDS A ROW THAT HAS NO ROOM: growSlice. (LAID: no walk: one application.) -/
theorem Tryz.Buffer_grow_row (B b g l cap n : Nat) (lr : Int) (cur : Array Value) (bs : List Value) (w : World) (hB : B ≤ b) (hBw : B ≤ w.heap.size) (hbk : w.heap[b]? = some (.cells #[.slice (some ⟨g, 0, none⟩) l cap, .int .i64 0, .int .i8 lr] 49 (0, 0))) (hl : bs.length = l) (hBg : B ≤ g) (hg : w.heap[g]? = some (.cells cur 5 (0, 0))) (hlc : l ≤ cap) (hcm : cap ≤ maxLen) (hcs : cur.size = cap) (htake : cur.toList.take l = bs) (hgb : g ≠ b) (h1 : ∀ v ∈ bs, v.oneCell' = true) (hn : 1 ≤ n) (hroom : cap - l < n) (hlim : l + n ≤ 140737488355328) :
    Calls Tryz.prog 75 #[.pointer (some ⟨b, 0, none⟩), .int .i64 n] w fun e w' => e = .returned (.int .i64 l) ∧ ∃ xs, xs.length = n ∧ Lib.IsBuffer 49 5 B b (bs ++ xs) w' ∧ Below B w w' := Any.Buffer_grow_row Tryz.laysM252 B b g l cap n lr cur bs w hB hBw hbk hl hBg hg hlc hcm hcs htake hgb h1 hn hroom hlim
open Go.RowKit in
/-- grow, 'buf' nil, n AT MOST 64: 'b.buf = make([]byte, n, smallBufferSize)'. (LAID: no walk: one application.) -/
theorem Tryz.Buffer_grow_nil_small (B b n : Nat) (lr : Int) (w : World) (hB : B ≤ b) (hBw : B ≤ w.heap.size) (hbk : w.heap[b]? = some (.cells #[.slice none 0 0, .int .i64 0, .int .i8 lr] 49 (0, 0))) (hn : 1 ≤ n) (h64 : n ≤ 64) :
    Calls Tryz.prog 75 #[.pointer (some ⟨b, 0, none⟩), .int .i64 n] w fun e w' => e = .returned (.int .i64 0) ∧ ∃ xs, xs.length = n ∧ Lib.IsBuffer 49 5 B b xs w' ∧ Below B w w' := Any.Buffer_grow_nil_small Tryz.laysM252 B b n lr w hB hBw hbk hn h64
open Go.RowKit in
/-- grow, 'buf' nil, n ABOVE 64: growSlice of the nil slice. (LAID: no walk: one application.) -/
theorem Tryz.Buffer_grow_nil_big (B b n : Nat) (lr : Int) (w : World) (hB : B ≤ b) (hBw : B ≤ w.heap.size) (hbk : w.heap[b]? = some (.cells #[.slice none 0 0, .int .i64 0, .int .i8 lr] 49 (0, 0))) (h64 : 64 < n) (hlim : n ≤ 140737488355328) :
    Calls Tryz.prog 75 #[.pointer (some ⟨b, 0, none⟩), .int .i64 n] w fun e w' => e = .returned (.int .i64 0) ∧ ∃ xs, xs.length = n ∧ Lib.IsBuffer 49 5 B b xs w' ∧ Below B w w' := Any.Buffer_grow_nil_big Tryz.laysM252 B b n lr w hB hBw hbk h64 hlim
open Go.RowKit in
/-- tryGrowByReslice: EITHER there is room: the place to write at is the old length, and the buffer holds the old bytes and n more of whatever lay there; OR there is none: nothing turns, and 'Lib.NoRoom' is what grow asks. (LAID: no walk: one application.) -/
theorem Tryz.Buffer_tryGrow (B b n : Nat) (bs : List Value) (w : World) (h : Lib.IsBuffer 49 5 B b bs w) :
    Calls Tryz.prog 74 #[.pointer (some ⟨b, 0, none⟩), .int .i64 n] w fun e w' =>
      (e = .returned (.tuple #[.int .i64 bs.length, .bool true]) ∧ ∃ xs, xs.length = n ∧ Lib.IsBuffer 49 5 B b (bs ++ xs) w' ∧ Below B w w') ∨
      (e = .returned (.tuple #[.int .i64 0, .bool false]) ∧ w' = w ∧ Lib.NoRoom b n w) := Any.Buffer_tryGrow Tryz.laysM251 B b n bs w h
open Go.RowKit in
/-- (*bytes.Buffer).grow: "grow grows the buffer to guarantee space for n more bytes. It returns the index where bytes should be written.": WHERE THERE IS NO ROOM; UNDER Go's OWN LIMIT (the new length takes at most 2^47 bytes): the old length; the buffer holds the old bytes and n more of whatever. (LAID: no walk: one application.) -/
theorem Tryz.Buffer_grow (B b n : Nat) (bs : List Value) (w : World) (h : Lib.IsBuffer 49 5 B b bs w) (hnr : Lib.NoRoom b n w) (hBw : B ≤ w.heap.size) (h1 : ∀ v ∈ bs, v.oneCell' = true) (hlim : bs.length + n ≤ 140737488355328) :
    Calls Tryz.prog 75 #[.pointer (some ⟨b, 0, none⟩), .int .i64 n] w fun e w' => e = .returned (.int .i64 bs.length) ∧ ∃ xs, xs.length = n ∧ Lib.IsBuffer 49 5 B b (bs ++ xs) w' ∧ Below B w w' := Any.Buffer_grow Tryz.laysM252 B b n bs w h hnr hBw h1 hlim
def Tryz.laysM179_ren : Go.Shelf.Ren := ⟨fun | 179 => 64 | 251 => 74 | 252 => 75 | 181 => 84 | 184 => 85 | 290 => 86 | 324 => 98 | n => n, fun | 130 => 65 | 5 => 5 | 75 => 51 | 0 => 0 | 93 => 49 | 91 => 47 | 3 => 3 | 131 => 66 | 4 => 4 | 37 => 24 | 20 => 20 | 80 => 55 | 9 => 9 | n => n, fun | 14 => 0 | n => n⟩
theorem Tryz.laysM179 : Go.Proofs.LaysM.n179 Tryz.prog Tryz.laysM179_ren := {
  mixed := by kernel_rfl
  f179 := Tryz.func64.trans (congrArg some (by kernel_rfl))
  f181 := Tryz.func84.trans (congrArg some (by kernel_rfl))
  f184 := Tryz.func85.trans (congrArg some (by kernel_rfl))
  f251 := Tryz.func74.trans (congrArg some (by kernel_rfl))
  f252 := Tryz.func75.trans (congrArg some (by kernel_rfl))
  f290 := Tryz.func86.trans (congrArg some (by kernel_rfl))
  f324 := Tryz.func98.trans (congrArg some (by kernel_rfl))
  t0 := Tryz.underlying0
  a0 := Tryz.isAgg0
  z0 := Tryz.sizeOf0
  v0 := Tryz.zeroValue0
  t3 := Tryz.underlying3
  a3 := Tryz.isAgg3
  z3 := Tryz.sizeOf3
  v3 := Tryz.zeroValue3
  t4 := Tryz.underlying4
  a4 := Tryz.isAgg4
  z4 := Tryz.sizeOf4
  v4 := Tryz.zeroValue4
  t5 := Tryz.underlying5
  a5 := Tryz.isAgg5
  z5 := Tryz.sizeOf5
  v5 := Tryz.zeroValue5
  t20 := Tryz.underlying20
  a20 := Tryz.isAgg20
  z20 := Tryz.sizeOf20
  v20 := Tryz.zeroValue20
  t37 := Tryz.underlying24
  a37 := Tryz.isAgg24
  z37 := Tryz.sizeOf24
  v37 := Tryz.zeroValue24
  t75 := Tryz.underlying51
  a75 := Tryz.isAgg51
  z75 := Tryz.sizeOf51
  v75 := Tryz.zeroValue51
  t91 := Tryz.underlying47
  a91 := Tryz.isAgg47
  z91 := Tryz.sizeOf47
  v91 := Tryz.zeroValue47
  t93 := Tryz.underlying49
  a93 := Tryz.isAgg49
  z93 := Tryz.sizeOf49
  v93 := Tryz.zeroValue49
  t130 := Tryz.underlying65
  a130 := Tryz.isAgg65
  z130 := Tryz.sizeOf65
  v130 := Tryz.zeroValue65
  t131 := Tryz.underlying66
  a131 := Tryz.isAgg66
  z131 := Tryz.sizeOf66
  v131 := Tryz.zeroValue66
  g14 := by kernel_rfl
  t9 := Tryz.underlying9
  a9 := Tryz.isAgg9
  z9 := Tryz.sizeOf9
  v9 := Tryz.zeroValue9
  t80 := Tryz.underlying55
  a80 := Tryz.isAgg55
  z80 := Tryz.sizeOf55
  v80 := Tryz.zeroValue55
  i0 := by kernel_rfl
  i3 := by kernel_rfl
  i4 := by kernel_rfl
  i5 := by kernel_rfl
  i9 := by kernel_rfl
  i20 := by kernel_rfl
  i37 := by kernel_rfl
  i75 := by kernel_rfl
  i80 := by kernel_rfl
  i91 := by kernel_rfl
  i93 := by kernel_rfl
  i130 := by kernel_rfl
  i131 := by kernel_rfl
  m14 := by kernel_rfl }
open Go.RowKit in
/-- (*bytes.Buffer).WriteByte: "WriteByte appends the byte c to the buffer, growing the buffer as needed. The returned error is always nil". (LAID: no walk: one application.) -/
theorem Tryz.Buffer_WriteByte (B b : Nat) (bs : List Value) (c : Int) (w : World) (h : Lib.IsBuffer 49 5 B b bs w) (hBw : B ≤ w.heap.size) (h1 : ∀ v ∈ bs, v.oneCell' = true) (hlim : bs.length + 1 ≤ 140737488355328) :
    Calls Tryz.prog 64 #[.pointer (some ⟨b, 0, none⟩), .int .u8 c] w fun e w' => e = .returned .nilIface ∧ Lib.IsBuffer 49 5 B b (bs ++ [.int .u8 c]) w' ∧ Below B w w' := Any.Buffer_WriteByte Tryz.laysM179 B b bs c w h hBw h1 hlim
def Tryz.laysM178_ren : Go.Shelf.Ren := ⟨fun | 178 => 63 | 251 => 74 | 252 => 75 | 181 => 84 | 184 => 85 | 290 => 86 | 324 => 98 | n => n, fun | 130 => 65 | 9 => 9 | 3 => 3 | 75 => 51 | 0 => 0 | 93 => 49 | 91 => 47 | 131 => 66 | 4 => 4 | 37 => 24 | 20 => 20 | 80 => 55 | 5 => 5 | n => n, fun | 14 => 0 | n => n⟩
theorem Tryz.laysM178 : Go.Proofs.LaysM.n178 Tryz.prog Tryz.laysM178_ren := {
  mixed := by kernel_rfl
  f178 := Tryz.func63.trans (congrArg some (by kernel_rfl))
  f181 := Tryz.func84.trans (congrArg some (by kernel_rfl))
  f184 := Tryz.func85.trans (congrArg some (by kernel_rfl))
  f251 := Tryz.func74.trans (congrArg some (by kernel_rfl))
  f252 := Tryz.func75.trans (congrArg some (by kernel_rfl))
  f290 := Tryz.func86.trans (congrArg some (by kernel_rfl))
  f324 := Tryz.func98.trans (congrArg some (by kernel_rfl))
  t0 := Tryz.underlying0
  a0 := Tryz.isAgg0
  z0 := Tryz.sizeOf0
  v0 := Tryz.zeroValue0
  t3 := Tryz.underlying3
  a3 := Tryz.isAgg3
  z3 := Tryz.sizeOf3
  v3 := Tryz.zeroValue3
  t4 := Tryz.underlying4
  a4 := Tryz.isAgg4
  z4 := Tryz.sizeOf4
  v4 := Tryz.zeroValue4
  t9 := Tryz.underlying9
  a9 := Tryz.isAgg9
  z9 := Tryz.sizeOf9
  v9 := Tryz.zeroValue9
  t20 := Tryz.underlying20
  a20 := Tryz.isAgg20
  z20 := Tryz.sizeOf20
  v20 := Tryz.zeroValue20
  t37 := Tryz.underlying24
  a37 := Tryz.isAgg24
  z37 := Tryz.sizeOf24
  v37 := Tryz.zeroValue24
  t75 := Tryz.underlying51
  a75 := Tryz.isAgg51
  z75 := Tryz.sizeOf51
  v75 := Tryz.zeroValue51
  t91 := Tryz.underlying47
  a91 := Tryz.isAgg47
  z91 := Tryz.sizeOf47
  v91 := Tryz.zeroValue47
  t93 := Tryz.underlying49
  a93 := Tryz.isAgg49
  z93 := Tryz.sizeOf49
  v93 := Tryz.zeroValue49
  t130 := Tryz.underlying65
  a130 := Tryz.isAgg65
  z130 := Tryz.sizeOf65
  v130 := Tryz.zeroValue65
  t131 := Tryz.underlying66
  a131 := Tryz.isAgg66
  z131 := Tryz.sizeOf66
  v131 := Tryz.zeroValue66
  g14 := by kernel_rfl
  t5 := Tryz.underlying5
  a5 := Tryz.isAgg5
  z5 := Tryz.sizeOf5
  v5 := Tryz.zeroValue5
  t80 := Tryz.underlying55
  a80 := Tryz.isAgg55
  z80 := Tryz.sizeOf55
  v80 := Tryz.zeroValue55
  i0 := by kernel_rfl
  i3 := by kernel_rfl
  i4 := by kernel_rfl
  i5 := by kernel_rfl
  i9 := by kernel_rfl
  i20 := by kernel_rfl
  i37 := by kernel_rfl
  i75 := by kernel_rfl
  i80 := by kernel_rfl
  i91 := by kernel_rfl
  i93 := by kernel_rfl
  i130 := by kernel_rfl
  i131 := by kernel_rfl
  m14 := by kernel_rfl }
open Go.RowKit in
/-- (*bytes.Buffer).WriteString: "WriteString appends the contents of s to the buffer, growing the buffer as needed. The return value n is the length of s; err is always nil." (LAID: no walk: one application.) -/
theorem Tryz.Buffer_WriteString (B b : Nat) (bs : List Value) (s : ByteArray) (w : World) (h : Lib.IsBuffer 49 5 B b bs w) (hBw : B ≤ w.heap.size) (h1 : ∀ v ∈ bs, v.oneCell' = true) (hlim : bs.length + s.size ≤ 140737488355328) :
    Calls Tryz.prog 63 #[.pointer (some ⟨b, 0, none⟩), .string s] w fun e w' => e = .returned (.tuple #[.int .i64 s.size, .nilIface]) ∧ Lib.IsBuffer 49 5 B b (bs ++ Lib.byteCells s.data.toList) w' ∧ Below B w w' := Any.Buffer_WriteString Tryz.laysM178 B b bs s w h hBw h1 hlim
def Tryz.laysM182_ren : Go.Shelf.Ren := ⟨fun | 182 => 65 | n => n, fun | 130 => 65 | 9 => 9 | 4 => 4 | 0 => 0 | 93 => 49 | 37 => 24 | 3 => 3 | 91 => 47 | 5 => 5 | n => n, fun | n => n⟩
theorem Tryz.laysM182 : Go.Proofs.LaysM.n182 Tryz.prog Tryz.laysM182_ren := {
  mixed := by kernel_rfl
  f182 := Tryz.func65.trans (congrArg some (by kernel_rfl))
  t0 := Tryz.underlying0
  a0 := Tryz.isAgg0
  z0 := Tryz.sizeOf0
  v0 := Tryz.zeroValue0
  t3 := Tryz.underlying3
  a3 := Tryz.isAgg3
  z3 := Tryz.sizeOf3
  v3 := Tryz.zeroValue3
  t4 := Tryz.underlying4
  a4 := Tryz.isAgg4
  z4 := Tryz.sizeOf4
  v4 := Tryz.zeroValue4
  t9 := Tryz.underlying9
  a9 := Tryz.isAgg9
  z9 := Tryz.sizeOf9
  v9 := Tryz.zeroValue9
  t37 := Tryz.underlying24
  a37 := Tryz.isAgg24
  z37 := Tryz.sizeOf24
  v37 := Tryz.zeroValue24
  t93 := Tryz.underlying49
  a93 := Tryz.isAgg49
  z93 := Tryz.sizeOf49
  v93 := Tryz.zeroValue49
  t130 := Tryz.underlying65
  a130 := Tryz.isAgg65
  z130 := Tryz.sizeOf65
  v130 := Tryz.zeroValue65
  t5 := Tryz.underlying5
  a5 := Tryz.isAgg5
  z5 := Tryz.sizeOf5
  v5 := Tryz.zeroValue5
  t91 := Tryz.underlying47
  a91 := Tryz.isAgg47
  z91 := Tryz.sizeOf47
  v91 := Tryz.zeroValue47
  i0 := by kernel_rfl
  i3 := by kernel_rfl
  i4 := by kernel_rfl
  i5 := by kernel_rfl
  i9 := by kernel_rfl
  i37 := by kernel_rfl
  i91 := by kernel_rfl
  i93 := by kernel_rfl
  i130 := by kernel_rfl }
open Go.RowKit in
/-- (*bytes.Buffer).String: "String returns the contents of the unread portion of the buffer as a string.": THE BYTES THAT WERE WRITTEN. The world is as it was but for the count of draws (the statement has two reads: its order is drawn). (LAID: no walk: one application.) -/
theorem Tryz.Buffer_String (B b : Nat) (l : List UInt8) (w : World) (h : Lib.IsBuffer 49 5 B b (Lib.byteCells l) w) :
    Calls Tryz.prog 65 #[.pointer (some ⟨b, 0, none⟩)] w fun e w' => e = .returned (.string ⟨l.toArray⟩) ∧ ∃ n, w' = w.drewN n := Any.Buffer_String Tryz.laysM182 B b l w h
def Tryz.laysM184_ren : Go.Shelf.Ren := ⟨fun | 184 => 85 | n => n, fun | 130 => 65 | 0 => 0 | 93 => 49 | 37 => 24 | 3 => 3 | 91 => 47 | 5 => 5 | n => n, fun | n => n⟩
theorem Tryz.laysM184 : Go.Proofs.LaysM.n184 Tryz.prog Tryz.laysM184_ren := {
  mixed := by kernel_rfl
  f184 := Tryz.func85.trans (congrArg some (by kernel_rfl))
  t0 := Tryz.underlying0
  a0 := Tryz.isAgg0
  z0 := Tryz.sizeOf0
  v0 := Tryz.zeroValue0
  t3 := Tryz.underlying3
  a3 := Tryz.isAgg3
  z3 := Tryz.sizeOf3
  v3 := Tryz.zeroValue3
  t37 := Tryz.underlying24
  a37 := Tryz.isAgg24
  z37 := Tryz.sizeOf24
  v37 := Tryz.zeroValue24
  t91 := Tryz.underlying47
  a91 := Tryz.isAgg47
  z91 := Tryz.sizeOf47
  v91 := Tryz.zeroValue47
  t93 := Tryz.underlying49
  a93 := Tryz.isAgg49
  z93 := Tryz.sizeOf49
  v93 := Tryz.zeroValue49
  t130 := Tryz.underlying65
  a130 := Tryz.isAgg65
  z130 := Tryz.sizeOf65
  v130 := Tryz.zeroValue65
  t5 := Tryz.underlying5
  a5 := Tryz.isAgg5
  z5 := Tryz.sizeOf5
  v5 := Tryz.zeroValue5
  i0 := by kernel_rfl
  i3 := by kernel_rfl
  i5 := by kernel_rfl
  i37 := by kernel_rfl
  i91 := by kernel_rfl
  i93 := by kernel_rfl
  i130 := by kernel_rfl }
open Go.RowKit in
/-- (*bytes.Buffer).Reset: "Reset resets the buffer to be empty, but it retains the underlying storage for use by future writes." (LAID: no walk: one application.) -/
theorem Tryz.Buffer_Reset (B b : Nat) (bs : List Value) (w : World) (h : Lib.IsBuffer 49 5 B b bs w) :
    Calls Tryz.prog 85 #[.pointer (some ⟨b, 0, none⟩)] w fun e w' => e = .returned (.tuple #[]) ∧ Lib.IsBuffer 49 5 B b [] w' ∧ Below B w w' := Any.Buffer_Reset Tryz.laysM184 B b bs w h
def Tryz.lays260_ren : Go.Shelf.Ren := ⟨fun | 260 => 110 | n => n, fun | 9 => 9 | 21 => 21 | 3 => 3 | 4 => 4 | 5 => 5 | 119 => 93 | 0 => 0 | 46 => 76 | 139 => 96 | 138 => 95 | n => n, fun | 3 => 1 | 4 => 2 | n => n⟩
theorem Tryz.lays260 : Go.Proofs.Lays.n260 Tryz.prog Tryz.lays260_ren := {
  mixed := by kernel_rfl
  f260 := Tryz.func110.trans (congrArg some (by kernel_rfl))
  t0 := Tryz.underlying0
  a0 := Tryz.isAgg0
  z0 := Tryz.sizeOf0
  v0 := Tryz.zeroValue0
  t3 := Tryz.underlying3
  a3 := Tryz.isAgg3
  z3 := Tryz.sizeOf3
  v3 := Tryz.zeroValue3
  t4 := Tryz.underlying4
  a4 := Tryz.isAgg4
  z4 := Tryz.sizeOf4
  v4 := Tryz.zeroValue4
  t5 := Tryz.underlying5
  a5 := Tryz.isAgg5
  z5 := Tryz.sizeOf5
  v5 := Tryz.zeroValue5
  t9 := Tryz.underlying9
  a9 := Tryz.isAgg9
  z9 := Tryz.sizeOf9
  v9 := Tryz.zeroValue9
  t21 := Tryz.underlying21
  a21 := Tryz.isAgg21
  z21 := Tryz.sizeOf21
  v21 := Tryz.zeroValue21
  t46 := Tryz.underlying76
  a46 := Tryz.isAgg76
  z46 := Tryz.sizeOf76
  v46 := Tryz.zeroValue76
  t119 := Tryz.underlying93
  a119 := Tryz.isAgg93
  z119 := Tryz.sizeOf93
  t138 := Tryz.underlying95
  a138 := Tryz.isAgg95
  z138 := Tryz.sizeOf95
  v138 := Tryz.zeroValue95
  t139 := Tryz.underlying96
  a139 := Tryz.isAgg96
  z139 := Tryz.sizeOf96
  v139 := Tryz.zeroValue96
  g3 := by kernel_rfl
  g4 := by kernel_rfl }
open Go.RowKit Go.Lib in
theorem Tryz.utf8_decodeRuneInStringSlow (s : ByteArray) (w : World) (hT : Lib.Utf8Tabs 1 2 w) :
    Calls Tryz.prog 110 #[.string s] w fun e w' => e = .returned (.tuple #[.int .i32 (Lib.decodeGo s).1, .int .i64 (Lib.decodeGo s).2]) ∧ Below w.heap.size w w' := Any.utf8_decodeRuneInStringSlow Tryz.lays260 s w hT
end Go.Proofs
