/-
  DERIVED: THE SHELF's CONTRACTS AT THIS DUMP, IN PLAIN WORDS (tools/lay-plain.mjs out of 'TrydShelf.lean', which tools/lay-shelf.mjs wrote): THE SAME DECLARATIONS UNDER THE SAME NAMES: 'import', 'namespace', 'open', 'def', 'theorem' AND NOTHING ELSE: no command of the shelf's: FOR A HAND-IN. Each laying: the table of numbers ('.._ren') and one theorem, a field a fact of the dump's own or the kernel's comparison; each contract: ONE APPLICATION.
-/
import Derived.Shelf.Strconv.Itoa0
import Derived.Shelf.Strconv.Itoa1
import Derived.Shelf.LaysM
import Derived.Shelf.Strconv.Itoa2
import Derived.Shelf.Strconv.Itoa3
import Derived.Ground.MpProg
import Derived.Shelf.Pu.ParseUintPublic10
import Derived.Shelf.Pu.ErrVarParseUint
import Derived.Shelf.GgClosure.StringsIndexFunc
import Derived.Ground.GgwProg
import Derived.Shelf.GgClosure.StringsIndexFuncTop
import Derived.Shelf.GgClosure.StringsRunes
import Derived.Shelf.Strings.FuncGrows
import Derived.Test.YtopaileliohpdaaDoorProg
namespace Go.Proofs
open Go.Shelf
def Tryd.lays129_ren : Go.Shelf.Ren := ⟨fun | 129 => 120 | n => n, fun | 53 => 22 | 3 => 3 | 4 => 4 | 46 => 117 | 5 => 5 | 9 => 9 | n => n, fun | n => n⟩
theorem Tryd.lays129 : Go.Proofs.Lays.n129 Tryd.prog Tryd.lays129_ren := {
  mixed := by kernel_rfl
  f129 := Tryd.func120.trans (congrArg some (by kernel_rfl))
  t3 := Tryd.underlying3
  a3 := Tryd.isAgg3
  z3 := Tryd.sizeOf3
  v3 := Tryd.zeroValue3
  t4 := Tryd.underlying4
  a4 := Tryd.isAgg4
  z4 := Tryd.sizeOf4
  v4 := Tryd.zeroValue4
  t5 := Tryd.underlying5
  a5 := Tryd.isAgg5
  z5 := Tryd.sizeOf5
  v5 := Tryd.zeroValue5
  t9 := Tryd.underlying9
  a9 := Tryd.isAgg9
  z9 := Tryd.sizeOf9
  v9 := Tryd.zeroValue9
  t46 := Tryd.underlying117
  a46 := Tryd.isAgg117
  z46 := Tryd.sizeOf117
  v46 := Tryd.zeroValue117
  t53 := Tryd.underlying22
  a53 := Tryd.isAgg22
  z53 := Tryd.sizeOf22
  v53 := Tryd.zeroValue22 }
/-- bits.Len64: "Len64 returns the minimum number of bits required to represent x; the result is 0 for x == 0.": IT RETURNS 'Lib.bitLen x'; the world is as it was. ('h0', 'h1': x is a uint64.) (LAID: no walk: one application.) -/
theorem Tryd.bits_Len64 (x : Int) (w : World) (h0 : 0 ≤ x) (h1 : x ≤ 18446744073709551615) :
    Calls Tryd.prog 120 #[.int .u64 x] w fun e w' => e = .returned (.int .i64 (Lib.bitLen x.toNat)) ∧ w' = w := Any.bits_Len64 Tryd.lays129 x w h0 h1
def Tryd.lays317_ren : Go.Shelf.Ren := ⟨fun | 317 => 119 | n => n, fun | 3 => 3 | 46 => 117 | n => n, fun | n => n⟩
theorem Tryd.lays317 : Go.Proofs.Lays.n317 Tryd.prog Tryd.lays317_ren := {
  mixed := by kernel_rfl
  f317 := Tryd.func119.trans (congrArg some (by kernel_rfl))
  t3 := Tryd.underlying3
  a3 := Tryd.isAgg3
  z3 := Tryd.sizeOf3
  v3 := Tryd.zeroValue3
  t46 := Tryd.underlying117
  a46 := Tryd.isAgg117
  z46 := Tryd.sizeOf117
  v46 := Tryd.zeroValue117 }
open Go.Lib in
/-- internal/strconv.log10Pow2: "log10Pow2(x) returns ⌊log₁₀ 2**x⌋ = ⌊x * log₁₀ 2⌋.": '(x * 78913) >> 18', at an x up to 64 (a length in bits). The world is as it was. (LAID: no walk: one application.) -/
theorem Tryd.internal_strconv_log10Pow2 (x : Nat) (h : x ≤ 64) (w : World) :
    Calls Tryd.prog 119 #[.int .i64 x] w fun e w' => e = .returned (.int .i64 (Lib.l10 x)) ∧ w' = w := Any.internal_strconv_log10Pow2 Tryd.lays317 x h w
def Tryd.lays318_ren : Go.Shelf.Ren := ⟨fun | 318 => 121 | n => n, fun | 3 => 3 | 4 => 4 | n => n, fun | n => n⟩
theorem Tryd.lays318 : Go.Proofs.Lays.n318 Tryd.prog Tryd.lays318_ren := {
  mixed := by kernel_rfl
  f318 := Tryd.func121.trans (congrArg some (by kernel_rfl))
  t3 := Tryd.underlying3
  a3 := Tryd.isAgg3
  z3 := Tryd.sizeOf3
  v3 := Tryd.zeroValue3
  t4 := Tryd.underlying4
  a4 := Tryd.isAgg4
  z4 := Tryd.sizeOf4
  v4 := Tryd.zeroValue4 }
open Go.Lib in
/-- internal/strconv.bool2: "bool2 converts b to an integer: 1 for true, 0 for false." The world is as it was. (LAID: no walk: one application.) -/
theorem Tryd.internal_strconv_bool2_int (b : Bool) (w : World) :
    Calls Tryd.prog 121 #[.bool b] w fun e w' => e = .returned (.int .i64 (if b then 1 else 0)) ∧ w' = w := Any.internal_strconv_bool2_int Tryd.lays318 b w
def Tryd.lays283_ren : Go.Shelf.Ren := ⟨fun | 283 => 113 | n => n, fun | 3 => 3 | 9 => 9 | 4 => 4 | n => n, fun | n => n⟩
theorem Tryd.lays283 : Go.Proofs.Lays.n283 Tryd.prog Tryd.lays283_ren := {
  mixed := by kernel_rfl
  f283 := Tryd.func113.trans (congrArg some (by kernel_rfl))
  t3 := Tryd.underlying3
  a3 := Tryd.isAgg3
  z3 := Tryd.sizeOf3
  v3 := Tryd.zeroValue3
  t4 := Tryd.underlying4
  a4 := Tryd.isAgg4
  z4 := Tryd.sizeOf4
  v4 := Tryd.zeroValue4
  t9 := Tryd.underlying9
  a9 := Tryd.isAgg9
  z9 := Tryd.sizeOf9
  v9 := Tryd.zeroValue9 }
open Go.Lib in
/-- internal/strconv.small: "small returns the string for an i with 0 <= i < nSmalls.": i's decimal numeral. The world is as it was. (LAID: no walk: one application.) -/
theorem Tryd.internal_strconv_small (i : Nat) (h : i < 100) (w : World) :
    Calls Tryd.prog 113 #[.int .i64 i] w fun e w' => e = .returned (.string ⟨(Lib.decDigits i).toArray⟩) ∧ w' = w := Any.internal_strconv_small Tryd.lays283 i h w
def Tryd.laysM284_ren : Go.Shelf.Ren := ⟨fun | 284 => 114 | 129 => 120 | 317 => 119 | 318 => 121 | n => n, fun | 53 => 22 | 3 => 3 | 212 => 132 | 0 => 0 | 4 => 4 | 46 => 117 | 5 => 5 | 9 => 9 | n => n, fun | 17 => 9 | n => n⟩
theorem Tryd.laysM284 : Go.Proofs.LaysM.n284 Tryd.prog Tryd.laysM284_ren := {
  mixed := by kernel_rfl
  f129 := Tryd.func120.trans (congrArg some (by kernel_rfl))
  f284 := Tryd.func114.trans (congrArg some (by kernel_rfl))
  f317 := Tryd.func119.trans (congrArg some (by kernel_rfl))
  f318 := Tryd.func121.trans (congrArg some (by kernel_rfl))
  t0 := Tryd.underlying0
  a0 := Tryd.isAgg0
  z0 := Tryd.sizeOf0
  v0 := Tryd.zeroValue0
  t3 := Tryd.underlying3
  a3 := Tryd.isAgg3
  z3 := Tryd.sizeOf3
  v3 := Tryd.zeroValue3
  t4 := Tryd.underlying4
  a4 := Tryd.isAgg4
  z4 := Tryd.sizeOf4
  v4 := Tryd.zeroValue4
  t5 := Tryd.underlying5
  a5 := Tryd.isAgg5
  z5 := Tryd.sizeOf5
  v5 := Tryd.zeroValue5
  t9 := Tryd.underlying9
  a9 := Tryd.isAgg9
  z9 := Tryd.sizeOf9
  v9 := Tryd.zeroValue9
  t46 := Tryd.underlying117
  a46 := Tryd.isAgg117
  z46 := Tryd.sizeOf117
  v46 := Tryd.zeroValue117
  t53 := Tryd.underlying22
  a53 := Tryd.isAgg22
  z53 := Tryd.sizeOf22
  v53 := Tryd.zeroValue22
  t212 := Tryd.underlying132
  a212 := Tryd.isAgg132
  z212 := Tryd.sizeOf132
  v212 := Tryd.zeroValue132
  g17 := by kernel_rfl
  i0 := by kernel_rfl
  i3 := by kernel_rfl
  i4 := by kernel_rfl
  i5 := by kernel_rfl
  i9 := by kernel_rfl
  i46 := by kernel_rfl
  i53 := by kernel_rfl
  i212 := by kernel_rfl
  m17 := by kernel_rfl }
open Go.Lib in
/-- internal/strconv.numDigits, at a d that is not 0: THE NUMBER OF d's DECIMAL DIGITS. The world is as it was. (LAID: no walk: one application.) -/
theorem Tryd.internal_strconv_numDigits (u : Nat) (h1 : 1 ≤ u) (h2 : u < 18446744073709551616) (w : World) (htab : Lib.TabIs Tryd.prog w "internal/strconv.uint64pow10" .u64 Lib.pow10Tab) :
    Calls Tryd.prog 114 #[.int .u64 u] w fun e w' => e = .returned (.int .i64 (Lib.nDigits u)) ∧ w' = w := Any.internal_strconv_numDigits Tryd.laysM284 u h1 h2 w htab
def Tryd.lays285_ren : Go.Shelf.Ren := ⟨fun | 285 => 115 | n => n, fun | 37 => 118 | 53 => 22 | 3 => 3 | 4 => 4 | 51 => 133 | 9 => 9 | 5 => 5 | 0 => 0 | n => n, fun | n => n⟩
theorem Tryd.lays285 : Go.Proofs.Lays.n285 Tryd.prog Tryd.lays285_ren := {
  mixed := by kernel_rfl
  f285 := Tryd.func115.trans (congrArg some (by kernel_rfl))
  t0 := Tryd.underlying0
  a0 := Tryd.isAgg0
  z0 := Tryd.sizeOf0
  v0 := Tryd.zeroValue0
  t3 := Tryd.underlying3
  a3 := Tryd.isAgg3
  z3 := Tryd.sizeOf3
  v3 := Tryd.zeroValue3
  t4 := Tryd.underlying4
  a4 := Tryd.isAgg4
  z4 := Tryd.sizeOf4
  v4 := Tryd.zeroValue4
  t5 := Tryd.underlying5
  a5 := Tryd.isAgg5
  z5 := Tryd.sizeOf5
  v5 := Tryd.zeroValue5
  t9 := Tryd.underlying9
  a9 := Tryd.isAgg9
  z9 := Tryd.sizeOf9
  v9 := Tryd.zeroValue9
  t37 := Tryd.underlying118
  a37 := Tryd.isAgg118
  z37 := Tryd.sizeOf118
  v37 := Tryd.zeroValue118
  t51 := Tryd.underlying133
  a51 := Tryd.isAgg133
  z51 := Tryd.sizeOf133
  v51 := Tryd.zeroValue133
  t53 := Tryd.underlying22
  a53 := Tryd.isAgg22
  z53 := Tryd.sizeOf22
  v53 := Tryd.zeroValue22 }
open Go.RowKit Go.Sort Go.Lib in
/-- internal/strconv.formatBase10: "formatBase10 formats the decimal representation of u into a. The caller is responsible for ensuring that a is big enough to hold u. If a is too big, leading zeros will be filled in as needed.": THE ROW HOLDS u's DIGITS ('FmtInv .. 0 ..': every place t holds 'dg u (len - 1 - t)'); all else is as it was but for the count of draws. (LAID: no walk: one application.) -/
theorem Tryd.internal_strconv_formatBase10 (blk off cap : Nat) (u : Nat) (d : Array UInt8) (w : World) (hH : Holds (fun (b : UInt8) => Value.int .u8 (b.toNat : Int)) w blk off d) (hu : u < 10 ^ d.size) (hu64 : u < 18446744073709551616) (hsz : d.size < 4611686018427387904) :
    Calls Tryd.prog 115 #[.slice (some ⟨blk, off, none⟩) d.size cap, .int .u64 u] w fun e w' =>
      e = .returned (.tuple #[]) ∧ ∃ (n v' : Nat) (dk : Array UInt8), w' = (putRow (fun (b : UInt8) => Value.int .u8 (b.toNat : Int)) w blk off dk).drewN n ∧ FmtInv d.size u 0 v' dk := Any.internal_strconv_formatBase10 Tryd.lays285 blk off cap u d w hH hu hu64 hsz
def Tryd.laysM246_ren : Go.Shelf.Ren := ⟨fun | 246 => 127 | 283 => 113 | 284 => 114 | 285 => 115 | 286 => 116 | 129 => 120 | 317 => 119 | 318 => 121 | 319 => 122 | 320 => 123 | 337 => 125 | 338 => 126 | n => n, fun | 2 => 2 | 3 => 3 | 9 => 9 | 4 => 4 | 171 => 122 | 0 => 0 | 53 => 22 | 37 => 118 | 5 => 5 | 173 => 125 | 212 => 132 | 51 => 133 | 20 => 20 | 213 => 134 | 46 => 117 | 232 => 140 | 233 => 141 | n => n, fun | 17 => 9 | 18 => 10 | 19 => 11 | n => n⟩
theorem Tryd.laysM246 : Go.Proofs.LaysM.n246 Tryd.prog Tryd.laysM246_ren := {
  mixed := by kernel_rfl
  f129 := Tryd.func120.trans (congrArg some (by kernel_rfl))
  f246 := Tryd.func127.trans (congrArg some (by kernel_rfl))
  f283 := Tryd.func113.trans (congrArg some (by kernel_rfl))
  f284 := Tryd.func114.trans (congrArg some (by kernel_rfl))
  f285 := Tryd.func115.trans (congrArg some (by kernel_rfl))
  f286 := Tryd.func116.trans (congrArg some (by kernel_rfl))
  f317 := Tryd.func119.trans (congrArg some (by kernel_rfl))
  f318 := Tryd.func121.trans (congrArg some (by kernel_rfl))
  f319 := Tryd.func122.trans (congrArg some (by kernel_rfl))
  f320 := Tryd.func123.trans (congrArg some (by kernel_rfl))
  f337 := Tryd.func125.trans (congrArg some (by kernel_rfl))
  f338 := Tryd.func126.trans (congrArg some (by kernel_rfl))
  t0 := Tryd.underlying0
  a0 := Tryd.isAgg0
  z0 := Tryd.sizeOf0
  v0 := Tryd.zeroValue0
  t2 := Tryd.underlying2
  a2 := Tryd.isAgg2
  z2 := Tryd.sizeOf2
  v2 := Tryd.zeroValue2
  t3 := Tryd.underlying3
  a3 := Tryd.isAgg3
  z3 := Tryd.sizeOf3
  v3 := Tryd.zeroValue3
  t4 := Tryd.underlying4
  a4 := Tryd.isAgg4
  z4 := Tryd.sizeOf4
  v4 := Tryd.zeroValue4
  t5 := Tryd.underlying5
  a5 := Tryd.isAgg5
  z5 := Tryd.sizeOf5
  v5 := Tryd.zeroValue5
  t9 := Tryd.underlying9
  a9 := Tryd.isAgg9
  z9 := Tryd.sizeOf9
  v9 := Tryd.zeroValue9
  t20 := Tryd.underlying20
  a20 := Tryd.isAgg20
  z20 := Tryd.sizeOf20
  v20 := Tryd.zeroValue20
  t37 := Tryd.underlying118
  a37 := Tryd.isAgg118
  z37 := Tryd.sizeOf118
  v37 := Tryd.zeroValue118
  t46 := Tryd.underlying117
  a46 := Tryd.isAgg117
  z46 := Tryd.sizeOf117
  v46 := Tryd.zeroValue117
  t51 := Tryd.underlying133
  a51 := Tryd.isAgg133
  z51 := Tryd.sizeOf133
  v51 := Tryd.zeroValue133
  t53 := Tryd.underlying22
  a53 := Tryd.isAgg22
  z53 := Tryd.sizeOf22
  v53 := Tryd.zeroValue22
  t171 := Tryd.underlying122
  a171 := Tryd.isAgg122
  z171 := Tryd.sizeOf122
  v171 := Tryd.zeroValue122
  t173 := Tryd.underlying125
  a173 := Tryd.isAgg125
  z173 := Tryd.sizeOf125
  v173 := Tryd.zeroValue125
  t212 := Tryd.underlying132
  a212 := Tryd.isAgg132
  z212 := Tryd.sizeOf132
  v212 := Tryd.zeroValue132
  t213 := Tryd.underlying134
  a213 := Tryd.isAgg134
  z213 := Tryd.sizeOf134
  t232 := Tryd.underlying140
  a232 := Tryd.isAgg140
  z232 := Tryd.sizeOf140
  v232 := Tryd.zeroValue140
  t233 := Tryd.underlying141
  a233 := Tryd.isAgg141
  z233 := Tryd.sizeOf141
  v233 := Tryd.zeroValue141
  g17 := by kernel_rfl
  g18 := by kernel_rfl
  g19 := by kernel_rfl
  i0 := by kernel_rfl
  i2 := by kernel_rfl
  i3 := by kernel_rfl
  i4 := by kernel_rfl
  i5 := by kernel_rfl
  i9 := by kernel_rfl
  i20 := by kernel_rfl
  i37 := by kernel_rfl
  i46 := by kernel_rfl
  i51 := by kernel_rfl
  i53 := by kernel_rfl
  i171 := by kernel_rfl
  i173 := by kernel_rfl
  i212 := by kernel_rfl
  i232 := by kernel_rfl
  i233 := by kernel_rfl
  m17 := by kernel_rfl
  m18 := by kernel_rfl
  m19 := by kernel_rfl }
open Go.RowKit Go.Sort Go.Lib in
/-- internal/strconv.FormatInt: "FormatInt returns the string representation of i in the given base": AT BASE 10: i's decimal numeral, for every int64. The world behind the call: the world before it, new blocks behind the heap, draws. (LAID: no walk: one application.) -/
theorem Tryd.internal_strconv_FormatInt_10 (n : Int) (h0 : -9223372036854775808 ≤ n) (h1 : n ≤ 9223372036854775807) (w : World) (htab : Lib.TabIs Tryd.prog w "internal/strconv.uint64pow10" .u64 Lib.pow10Tab) :
    Calls Tryd.prog 127 #[.int .i64 n, .int .i64 10] w fun e w' => e = .returned (.string ⟨(Lib.itoa n).toArray⟩) ∧ ∃ k os, w' = grow (w.drewN k) os := Any.internal_strconv_FormatInt_10 Tryd.laysM246 n h0 h1 w htab
def Tryd.lays246_ren : Go.Shelf.Ren := ⟨fun | 246 => 127 | 283 => 113 | 284 => 114 | 285 => 115 | 286 => 116 | 129 => 120 | 317 => 119 | 318 => 121 | 319 => 122 | 320 => 123 | 337 => 125 | 338 => 126 | n => n, fun | 2 => 2 | 3 => 3 | 9 => 9 | 4 => 4 | 171 => 122 | 0 => 0 | 53 => 22 | 37 => 118 | 5 => 5 | 173 => 125 | 212 => 132 | 51 => 133 | 20 => 20 | 213 => 134 | 46 => 117 | 232 => 140 | 233 => 141 | n => n, fun | 17 => 9 | 18 => 10 | 19 => 11 | n => n⟩
theorem Tryd.lays246 : Go.Proofs.Lays.n246 Tryd.prog Tryd.lays246_ren := {
  mixed := by kernel_rfl
  f129 := Tryd.func120.trans (congrArg some (by kernel_rfl))
  f246 := Tryd.func127.trans (congrArg some (by kernel_rfl))
  f283 := Tryd.func113.trans (congrArg some (by kernel_rfl))
  f284 := Tryd.func114.trans (congrArg some (by kernel_rfl))
  f285 := Tryd.func115.trans (congrArg some (by kernel_rfl))
  f286 := Tryd.func116.trans (congrArg some (by kernel_rfl))
  f317 := Tryd.func119.trans (congrArg some (by kernel_rfl))
  f318 := Tryd.func121.trans (congrArg some (by kernel_rfl))
  f319 := Tryd.func122.trans (congrArg some (by kernel_rfl))
  f320 := Tryd.func123.trans (congrArg some (by kernel_rfl))
  f337 := Tryd.func125.trans (congrArg some (by kernel_rfl))
  f338 := Tryd.func126.trans (congrArg some (by kernel_rfl))
  t0 := Tryd.underlying0
  a0 := Tryd.isAgg0
  z0 := Tryd.sizeOf0
  v0 := Tryd.zeroValue0
  t2 := Tryd.underlying2
  a2 := Tryd.isAgg2
  z2 := Tryd.sizeOf2
  v2 := Tryd.zeroValue2
  t3 := Tryd.underlying3
  a3 := Tryd.isAgg3
  z3 := Tryd.sizeOf3
  v3 := Tryd.zeroValue3
  t4 := Tryd.underlying4
  a4 := Tryd.isAgg4
  z4 := Tryd.sizeOf4
  v4 := Tryd.zeroValue4
  t5 := Tryd.underlying5
  a5 := Tryd.isAgg5
  z5 := Tryd.sizeOf5
  v5 := Tryd.zeroValue5
  t9 := Tryd.underlying9
  a9 := Tryd.isAgg9
  z9 := Tryd.sizeOf9
  v9 := Tryd.zeroValue9
  t20 := Tryd.underlying20
  a20 := Tryd.isAgg20
  z20 := Tryd.sizeOf20
  v20 := Tryd.zeroValue20
  t37 := Tryd.underlying118
  a37 := Tryd.isAgg118
  z37 := Tryd.sizeOf118
  v37 := Tryd.zeroValue118
  t46 := Tryd.underlying117
  a46 := Tryd.isAgg117
  z46 := Tryd.sizeOf117
  v46 := Tryd.zeroValue117
  t51 := Tryd.underlying133
  a51 := Tryd.isAgg133
  z51 := Tryd.sizeOf133
  v51 := Tryd.zeroValue133
  t53 := Tryd.underlying22
  a53 := Tryd.isAgg22
  z53 := Tryd.sizeOf22
  v53 := Tryd.zeroValue22
  t171 := Tryd.underlying122
  a171 := Tryd.isAgg122
  z171 := Tryd.sizeOf122
  v171 := Tryd.zeroValue122
  t173 := Tryd.underlying125
  a173 := Tryd.isAgg125
  z173 := Tryd.sizeOf125
  v173 := Tryd.zeroValue125
  t212 := Tryd.underlying132
  a212 := Tryd.isAgg132
  z212 := Tryd.sizeOf132
  v212 := Tryd.zeroValue132
  t213 := Tryd.underlying134
  a213 := Tryd.isAgg134
  z213 := Tryd.sizeOf134
  t232 := Tryd.underlying140
  a232 := Tryd.isAgg140
  z232 := Tryd.sizeOf140
  v232 := Tryd.zeroValue140
  t233 := Tryd.underlying141
  a233 := Tryd.isAgg141
  z233 := Tryd.sizeOf141
  v233 := Tryd.zeroValue141
  g17 := by kernel_rfl
  g18 := by kernel_rfl
  g19 := by kernel_rfl }
open Go.RowKit Go.Sort Go.Lib in
/-- THE ROAD WITHOUT THE TABLE: 0 <= i < 100: two constants are read, nothing is laid: no premise on the world, and the world is as it was. (LAID: no walk: one application.) -/
theorem Tryd.internal_strconv_FormatInt_10_small (i : Nat) (hi : i < 100) (w : World) :
    Calls Tryd.prog 127 #[.int .i64 i, .int .i64 10] w fun e w' => e = .returned (.string ⟨(Lib.decDigits i).toArray⟩) ∧ w' = w := Any.internal_strconv_FormatInt_10_small Tryd.lays246 i hi w
def Tryd.laysM243_ren : Go.Shelf.Ren := ⟨fun | 243 => 124 | 246 => 127 | 283 => 113 | 284 => 114 | 285 => 115 | 286 => 116 | 129 => 120 | 317 => 119 | 318 => 121 | 319 => 122 | 320 => 123 | 337 => 125 | 338 => 126 | n => n, fun | 3 => 3 | 9 => 9 | 2 => 2 | 4 => 4 | 171 => 122 | 0 => 0 | 53 => 22 | 37 => 118 | 5 => 5 | 173 => 125 | 212 => 132 | 51 => 133 | 20 => 20 | 213 => 134 | 46 => 117 | 232 => 140 | 233 => 141 | n => n, fun | 17 => 9 | 18 => 10 | 19 => 11 | n => n⟩
theorem Tryd.laysM243 : Go.Proofs.LaysM.n243 Tryd.prog Tryd.laysM243_ren := {
  mixed := by kernel_rfl
  f129 := Tryd.func120.trans (congrArg some (by kernel_rfl))
  f243 := Tryd.func124.trans (congrArg some (by kernel_rfl))
  f246 := Tryd.func127.trans (congrArg some (by kernel_rfl))
  f283 := Tryd.func113.trans (congrArg some (by kernel_rfl))
  f284 := Tryd.func114.trans (congrArg some (by kernel_rfl))
  f285 := Tryd.func115.trans (congrArg some (by kernel_rfl))
  f286 := Tryd.func116.trans (congrArg some (by kernel_rfl))
  f317 := Tryd.func119.trans (congrArg some (by kernel_rfl))
  f318 := Tryd.func121.trans (congrArg some (by kernel_rfl))
  f319 := Tryd.func122.trans (congrArg some (by kernel_rfl))
  f320 := Tryd.func123.trans (congrArg some (by kernel_rfl))
  f337 := Tryd.func125.trans (congrArg some (by kernel_rfl))
  f338 := Tryd.func126.trans (congrArg some (by kernel_rfl))
  t0 := Tryd.underlying0
  a0 := Tryd.isAgg0
  z0 := Tryd.sizeOf0
  v0 := Tryd.zeroValue0
  t2 := Tryd.underlying2
  a2 := Tryd.isAgg2
  z2 := Tryd.sizeOf2
  v2 := Tryd.zeroValue2
  t3 := Tryd.underlying3
  a3 := Tryd.isAgg3
  z3 := Tryd.sizeOf3
  v3 := Tryd.zeroValue3
  t4 := Tryd.underlying4
  a4 := Tryd.isAgg4
  z4 := Tryd.sizeOf4
  v4 := Tryd.zeroValue4
  t5 := Tryd.underlying5
  a5 := Tryd.isAgg5
  z5 := Tryd.sizeOf5
  v5 := Tryd.zeroValue5
  t9 := Tryd.underlying9
  a9 := Tryd.isAgg9
  z9 := Tryd.sizeOf9
  v9 := Tryd.zeroValue9
  t20 := Tryd.underlying20
  a20 := Tryd.isAgg20
  z20 := Tryd.sizeOf20
  v20 := Tryd.zeroValue20
  t37 := Tryd.underlying118
  a37 := Tryd.isAgg118
  z37 := Tryd.sizeOf118
  v37 := Tryd.zeroValue118
  t46 := Tryd.underlying117
  a46 := Tryd.isAgg117
  z46 := Tryd.sizeOf117
  v46 := Tryd.zeroValue117
  t51 := Tryd.underlying133
  a51 := Tryd.isAgg133
  z51 := Tryd.sizeOf133
  v51 := Tryd.zeroValue133
  t53 := Tryd.underlying22
  a53 := Tryd.isAgg22
  z53 := Tryd.sizeOf22
  v53 := Tryd.zeroValue22
  t171 := Tryd.underlying122
  a171 := Tryd.isAgg122
  z171 := Tryd.sizeOf122
  v171 := Tryd.zeroValue122
  t173 := Tryd.underlying125
  a173 := Tryd.isAgg125
  z173 := Tryd.sizeOf125
  v173 := Tryd.zeroValue125
  t212 := Tryd.underlying132
  a212 := Tryd.isAgg132
  z212 := Tryd.sizeOf132
  v212 := Tryd.zeroValue132
  t213 := Tryd.underlying134
  a213 := Tryd.isAgg134
  z213 := Tryd.sizeOf134
  t232 := Tryd.underlying140
  a232 := Tryd.isAgg140
  z232 := Tryd.sizeOf140
  v232 := Tryd.zeroValue140
  t233 := Tryd.underlying141
  a233 := Tryd.isAgg141
  z233 := Tryd.sizeOf141
  v233 := Tryd.zeroValue141
  g17 := by kernel_rfl
  g18 := by kernel_rfl
  g19 := by kernel_rfl
  i0 := by kernel_rfl
  i2 := by kernel_rfl
  i3 := by kernel_rfl
  i4 := by kernel_rfl
  i5 := by kernel_rfl
  i9 := by kernel_rfl
  i20 := by kernel_rfl
  i37 := by kernel_rfl
  i46 := by kernel_rfl
  i51 := by kernel_rfl
  i53 := by kernel_rfl
  i171 := by kernel_rfl
  i173 := by kernel_rfl
  i212 := by kernel_rfl
  i232 := by kernel_rfl
  i233 := by kernel_rfl
  m17 := by kernel_rfl
  m18 := by kernel_rfl
  m19 := by kernel_rfl }
open Go.RowKit Go.Sort Go.Lib in
/-- internal/strconv.Itoa: "Itoa is equivalent to FormatInt(int64(i), 10).": i's decimal numeral, for every int. (LAID: no walk: one application.) -/
theorem Tryd.internal_strconv_Itoa (n : Int) (h0 : -9223372036854775808 ≤ n) (h1 : n ≤ 9223372036854775807) (w : World) (htab : Lib.TabIs Tryd.prog w "internal/strconv.uint64pow10" .u64 Lib.pow10Tab) :
    Calls Tryd.prog 124 #[.int .i64 n] w fun e w' => e = .returned (.string ⟨(Lib.itoa n).toArray⟩) ∧ ∃ k os, w' = grow (w.drewN k) os := Any.internal_strconv_Itoa Tryd.laysM243 n h0 h1 w htab
def Tryd.lays243_ren : Go.Shelf.Ren := ⟨fun | 243 => 124 | 246 => 127 | 283 => 113 | 284 => 114 | 285 => 115 | 286 => 116 | 129 => 120 | 317 => 119 | 318 => 121 | 319 => 122 | 320 => 123 | 337 => 125 | 338 => 126 | n => n, fun | 3 => 3 | 9 => 9 | 2 => 2 | 4 => 4 | 171 => 122 | 0 => 0 | 53 => 22 | 37 => 118 | 5 => 5 | 173 => 125 | 212 => 132 | 51 => 133 | 20 => 20 | 213 => 134 | 46 => 117 | 232 => 140 | 233 => 141 | n => n, fun | 17 => 9 | 18 => 10 | 19 => 11 | n => n⟩
theorem Tryd.lays243 : Go.Proofs.Lays.n243 Tryd.prog Tryd.lays243_ren := {
  mixed := by kernel_rfl
  f129 := Tryd.func120.trans (congrArg some (by kernel_rfl))
  f243 := Tryd.func124.trans (congrArg some (by kernel_rfl))
  f246 := Tryd.func127.trans (congrArg some (by kernel_rfl))
  f283 := Tryd.func113.trans (congrArg some (by kernel_rfl))
  f284 := Tryd.func114.trans (congrArg some (by kernel_rfl))
  f285 := Tryd.func115.trans (congrArg some (by kernel_rfl))
  f286 := Tryd.func116.trans (congrArg some (by kernel_rfl))
  f317 := Tryd.func119.trans (congrArg some (by kernel_rfl))
  f318 := Tryd.func121.trans (congrArg some (by kernel_rfl))
  f319 := Tryd.func122.trans (congrArg some (by kernel_rfl))
  f320 := Tryd.func123.trans (congrArg some (by kernel_rfl))
  f337 := Tryd.func125.trans (congrArg some (by kernel_rfl))
  f338 := Tryd.func126.trans (congrArg some (by kernel_rfl))
  t0 := Tryd.underlying0
  a0 := Tryd.isAgg0
  z0 := Tryd.sizeOf0
  v0 := Tryd.zeroValue0
  t2 := Tryd.underlying2
  a2 := Tryd.isAgg2
  z2 := Tryd.sizeOf2
  v2 := Tryd.zeroValue2
  t3 := Tryd.underlying3
  a3 := Tryd.isAgg3
  z3 := Tryd.sizeOf3
  v3 := Tryd.zeroValue3
  t4 := Tryd.underlying4
  a4 := Tryd.isAgg4
  z4 := Tryd.sizeOf4
  v4 := Tryd.zeroValue4
  t5 := Tryd.underlying5
  a5 := Tryd.isAgg5
  z5 := Tryd.sizeOf5
  v5 := Tryd.zeroValue5
  t9 := Tryd.underlying9
  a9 := Tryd.isAgg9
  z9 := Tryd.sizeOf9
  v9 := Tryd.zeroValue9
  t20 := Tryd.underlying20
  a20 := Tryd.isAgg20
  z20 := Tryd.sizeOf20
  v20 := Tryd.zeroValue20
  t37 := Tryd.underlying118
  a37 := Tryd.isAgg118
  z37 := Tryd.sizeOf118
  v37 := Tryd.zeroValue118
  t46 := Tryd.underlying117
  a46 := Tryd.isAgg117
  z46 := Tryd.sizeOf117
  v46 := Tryd.zeroValue117
  t51 := Tryd.underlying133
  a51 := Tryd.isAgg133
  z51 := Tryd.sizeOf133
  v51 := Tryd.zeroValue133
  t53 := Tryd.underlying22
  a53 := Tryd.isAgg22
  z53 := Tryd.sizeOf22
  v53 := Tryd.zeroValue22
  t171 := Tryd.underlying122
  a171 := Tryd.isAgg122
  z171 := Tryd.sizeOf122
  v171 := Tryd.zeroValue122
  t173 := Tryd.underlying125
  a173 := Tryd.isAgg125
  z173 := Tryd.sizeOf125
  v173 := Tryd.zeroValue125
  t212 := Tryd.underlying132
  a212 := Tryd.isAgg132
  z212 := Tryd.sizeOf132
  v212 := Tryd.zeroValue132
  t213 := Tryd.underlying134
  a213 := Tryd.isAgg134
  z213 := Tryd.sizeOf134
  t232 := Tryd.underlying140
  a232 := Tryd.isAgg140
  z232 := Tryd.sizeOf140
  v232 := Tryd.zeroValue140
  t233 := Tryd.underlying141
  a233 := Tryd.isAgg141
  z233 := Tryd.sizeOf141
  v233 := Tryd.zeroValue141
  g17 := by kernel_rfl
  g18 := by kernel_rfl
  g19 := by kernel_rfl }
open Go.RowKit Go.Sort Go.Lib in
/-- THE ROAD WITHOUT THE TABLE: 0 <= i < 100. (LAID: no walk: one application.) -/
theorem Tryd.internal_strconv_Itoa_small (i : Nat) (hi : i < 100) (w : World) :
    Calls Tryd.prog 124 #[.int .i64 i] w fun e w' => e = .returned (.string ⟨(Lib.decDigits i).toArray⟩) ∧ w' = w := Any.internal_strconv_Itoa_small Tryd.lays243 i hi w
def Tryd.laysM171_ren : Go.Shelf.Ren := ⟨fun | 171 => 118 | 243 => 124 | 246 => 127 | 283 => 113 | 284 => 114 | 285 => 115 | 286 => 116 | 129 => 120 | 317 => 119 | 318 => 121 | 319 => 122 | 320 => 123 | 337 => 125 | 338 => 126 | n => n, fun | 3 => 3 | 9 => 9 | 2 => 2 | 4 => 4 | 171 => 122 | 0 => 0 | 53 => 22 | 37 => 118 | 5 => 5 | 173 => 125 | 212 => 132 | 51 => 133 | 20 => 20 | 213 => 134 | 46 => 117 | 232 => 140 | 233 => 141 | n => n, fun | 17 => 9 | 18 => 10 | 19 => 11 | n => n⟩
theorem Tryd.laysM171 : Go.Proofs.LaysM.n171 Tryd.prog Tryd.laysM171_ren := {
  mixed := by kernel_rfl
  f129 := Tryd.func120.trans (congrArg some (by kernel_rfl))
  f171 := Tryd.func118.trans (congrArg some (by kernel_rfl))
  f243 := Tryd.func124.trans (congrArg some (by kernel_rfl))
  f246 := Tryd.func127.trans (congrArg some (by kernel_rfl))
  f283 := Tryd.func113.trans (congrArg some (by kernel_rfl))
  f284 := Tryd.func114.trans (congrArg some (by kernel_rfl))
  f285 := Tryd.func115.trans (congrArg some (by kernel_rfl))
  f286 := Tryd.func116.trans (congrArg some (by kernel_rfl))
  f317 := Tryd.func119.trans (congrArg some (by kernel_rfl))
  f318 := Tryd.func121.trans (congrArg some (by kernel_rfl))
  f319 := Tryd.func122.trans (congrArg some (by kernel_rfl))
  f320 := Tryd.func123.trans (congrArg some (by kernel_rfl))
  f337 := Tryd.func125.trans (congrArg some (by kernel_rfl))
  f338 := Tryd.func126.trans (congrArg some (by kernel_rfl))
  t0 := Tryd.underlying0
  a0 := Tryd.isAgg0
  z0 := Tryd.sizeOf0
  v0 := Tryd.zeroValue0
  t2 := Tryd.underlying2
  a2 := Tryd.isAgg2
  z2 := Tryd.sizeOf2
  v2 := Tryd.zeroValue2
  t3 := Tryd.underlying3
  a3 := Tryd.isAgg3
  z3 := Tryd.sizeOf3
  v3 := Tryd.zeroValue3
  t4 := Tryd.underlying4
  a4 := Tryd.isAgg4
  z4 := Tryd.sizeOf4
  v4 := Tryd.zeroValue4
  t5 := Tryd.underlying5
  a5 := Tryd.isAgg5
  z5 := Tryd.sizeOf5
  v5 := Tryd.zeroValue5
  t9 := Tryd.underlying9
  a9 := Tryd.isAgg9
  z9 := Tryd.sizeOf9
  v9 := Tryd.zeroValue9
  t20 := Tryd.underlying20
  a20 := Tryd.isAgg20
  z20 := Tryd.sizeOf20
  v20 := Tryd.zeroValue20
  t37 := Tryd.underlying118
  a37 := Tryd.isAgg118
  z37 := Tryd.sizeOf118
  v37 := Tryd.zeroValue118
  t46 := Tryd.underlying117
  a46 := Tryd.isAgg117
  z46 := Tryd.sizeOf117
  v46 := Tryd.zeroValue117
  t51 := Tryd.underlying133
  a51 := Tryd.isAgg133
  z51 := Tryd.sizeOf133
  v51 := Tryd.zeroValue133
  t53 := Tryd.underlying22
  a53 := Tryd.isAgg22
  z53 := Tryd.sizeOf22
  v53 := Tryd.zeroValue22
  t171 := Tryd.underlying122
  a171 := Tryd.isAgg122
  z171 := Tryd.sizeOf122
  v171 := Tryd.zeroValue122
  t173 := Tryd.underlying125
  a173 := Tryd.isAgg125
  z173 := Tryd.sizeOf125
  v173 := Tryd.zeroValue125
  t212 := Tryd.underlying132
  a212 := Tryd.isAgg132
  z212 := Tryd.sizeOf132
  v212 := Tryd.zeroValue132
  t213 := Tryd.underlying134
  a213 := Tryd.isAgg134
  z213 := Tryd.sizeOf134
  t232 := Tryd.underlying140
  a232 := Tryd.isAgg140
  z232 := Tryd.sizeOf140
  v232 := Tryd.zeroValue140
  t233 := Tryd.underlying141
  a233 := Tryd.isAgg141
  z233 := Tryd.sizeOf141
  v233 := Tryd.zeroValue141
  g17 := by kernel_rfl
  g18 := by kernel_rfl
  g19 := by kernel_rfl
  i0 := by kernel_rfl
  i2 := by kernel_rfl
  i3 := by kernel_rfl
  i4 := by kernel_rfl
  i5 := by kernel_rfl
  i9 := by kernel_rfl
  i20 := by kernel_rfl
  i37 := by kernel_rfl
  i46 := by kernel_rfl
  i51 := by kernel_rfl
  i53 := by kernel_rfl
  i171 := by kernel_rfl
  i173 := by kernel_rfl
  i212 := by kernel_rfl
  i232 := by kernel_rfl
  i233 := by kernel_rfl
  m17 := by kernel_rfl
  m18 := by kernel_rfl
  m19 := by kernel_rfl }
open Go.RowKit Go.Sort Go.Lib in
/-- strconv.Itoa: "Itoa is equivalent to FormatInt(int64(i), 10).": i's DECIMAL NUMERAL ('Lib.itoa': a '-' where i is negative, then the digits), FOR EVERY int. The world behind the call: the world before it, new blocks behind the heap (the library's 'var a [24]byte'), draws. (LAID: no walk: one application.) -/
theorem Tryd.strconv_Itoa (n : Int) (h0 : -9223372036854775808 ≤ n) (h1 : n ≤ 9223372036854775807) (w : World) (htab : Lib.TabIs Tryd.prog w "internal/strconv.uint64pow10" .u64 Lib.pow10Tab) :
    Calls Tryd.prog 118 #[.int .i64 n] w fun e w' => e = .returned (.string ⟨(Lib.itoa n).toArray⟩) ∧ ∃ k os, w' = grow (w.drewN k) os := Any.strconv_Itoa Tryd.laysM171 n h0 h1 w htab
def Tryd.lays171_ren : Go.Shelf.Ren := ⟨fun | 171 => 118 | 243 => 124 | 246 => 127 | 283 => 113 | 284 => 114 | 285 => 115 | 286 => 116 | 129 => 120 | 317 => 119 | 318 => 121 | 319 => 122 | 320 => 123 | 337 => 125 | 338 => 126 | n => n, fun | 3 => 3 | 9 => 9 | 2 => 2 | 4 => 4 | 171 => 122 | 0 => 0 | 53 => 22 | 37 => 118 | 5 => 5 | 173 => 125 | 212 => 132 | 51 => 133 | 20 => 20 | 213 => 134 | 46 => 117 | 232 => 140 | 233 => 141 | n => n, fun | 17 => 9 | 18 => 10 | 19 => 11 | n => n⟩
theorem Tryd.lays171 : Go.Proofs.Lays.n171 Tryd.prog Tryd.lays171_ren := {
  mixed := by kernel_rfl
  f129 := Tryd.func120.trans (congrArg some (by kernel_rfl))
  f171 := Tryd.func118.trans (congrArg some (by kernel_rfl))
  f243 := Tryd.func124.trans (congrArg some (by kernel_rfl))
  f246 := Tryd.func127.trans (congrArg some (by kernel_rfl))
  f283 := Tryd.func113.trans (congrArg some (by kernel_rfl))
  f284 := Tryd.func114.trans (congrArg some (by kernel_rfl))
  f285 := Tryd.func115.trans (congrArg some (by kernel_rfl))
  f286 := Tryd.func116.trans (congrArg some (by kernel_rfl))
  f317 := Tryd.func119.trans (congrArg some (by kernel_rfl))
  f318 := Tryd.func121.trans (congrArg some (by kernel_rfl))
  f319 := Tryd.func122.trans (congrArg some (by kernel_rfl))
  f320 := Tryd.func123.trans (congrArg some (by kernel_rfl))
  f337 := Tryd.func125.trans (congrArg some (by kernel_rfl))
  f338 := Tryd.func126.trans (congrArg some (by kernel_rfl))
  t0 := Tryd.underlying0
  a0 := Tryd.isAgg0
  z0 := Tryd.sizeOf0
  v0 := Tryd.zeroValue0
  t2 := Tryd.underlying2
  a2 := Tryd.isAgg2
  z2 := Tryd.sizeOf2
  v2 := Tryd.zeroValue2
  t3 := Tryd.underlying3
  a3 := Tryd.isAgg3
  z3 := Tryd.sizeOf3
  v3 := Tryd.zeroValue3
  t4 := Tryd.underlying4
  a4 := Tryd.isAgg4
  z4 := Tryd.sizeOf4
  v4 := Tryd.zeroValue4
  t5 := Tryd.underlying5
  a5 := Tryd.isAgg5
  z5 := Tryd.sizeOf5
  v5 := Tryd.zeroValue5
  t9 := Tryd.underlying9
  a9 := Tryd.isAgg9
  z9 := Tryd.sizeOf9
  v9 := Tryd.zeroValue9
  t20 := Tryd.underlying20
  a20 := Tryd.isAgg20
  z20 := Tryd.sizeOf20
  v20 := Tryd.zeroValue20
  t37 := Tryd.underlying118
  a37 := Tryd.isAgg118
  z37 := Tryd.sizeOf118
  v37 := Tryd.zeroValue118
  t46 := Tryd.underlying117
  a46 := Tryd.isAgg117
  z46 := Tryd.sizeOf117
  v46 := Tryd.zeroValue117
  t51 := Tryd.underlying133
  a51 := Tryd.isAgg133
  z51 := Tryd.sizeOf133
  v51 := Tryd.zeroValue133
  t53 := Tryd.underlying22
  a53 := Tryd.isAgg22
  z53 := Tryd.sizeOf22
  v53 := Tryd.zeroValue22
  t171 := Tryd.underlying122
  a171 := Tryd.isAgg122
  z171 := Tryd.sizeOf122
  v171 := Tryd.zeroValue122
  t173 := Tryd.underlying125
  a173 := Tryd.isAgg125
  z173 := Tryd.sizeOf125
  v173 := Tryd.zeroValue125
  t212 := Tryd.underlying132
  a212 := Tryd.isAgg132
  z212 := Tryd.sizeOf132
  v212 := Tryd.zeroValue132
  t213 := Tryd.underlying134
  a213 := Tryd.isAgg134
  z213 := Tryd.sizeOf134
  t232 := Tryd.underlying140
  a232 := Tryd.isAgg140
  z232 := Tryd.sizeOf140
  v232 := Tryd.zeroValue140
  t233 := Tryd.underlying141
  a233 := Tryd.isAgg141
  z233 := Tryd.sizeOf141
  v233 := Tryd.zeroValue141
  g17 := by kernel_rfl
  g18 := by kernel_rfl
  g19 := by kernel_rfl }
open Go.RowKit Go.Sort Go.Lib in
/-- THE ROAD WITHOUT THE TABLE: 0 <= i < 100: NO PREMISE ON THE WORLD, AND THE WORLD IS AS IT WAS: a row that keeps its argument in that range need list no table ('laid = []'). (LAID: no walk: one application.) -/
theorem Tryd.strconv_Itoa_small (i : Nat) (hi : i < 100) (w : World) :
    Calls Tryd.prog 118 #[.int .i64 i] w fun e w' => e = .returned (.string ⟨(Lib.decDigits i).toArray⟩) ∧ w' = w := Any.strconv_Itoa_small Tryd.lays171 i hi w
def Tryd.laysPu14_ren : Go.Shelf.Ren := ⟨fun | 14 => 91 | 16 => 101 | 17 => 102 | 19 => 107 | 20 => 108 | 21 => 109 | 22 => 110 | 23 => 111 | 24 => 112 | 25 => 117 | 27 => 118 | 26 => 96 | 28 => 124 | 29 => 127 | 30 => 113 | 31 => 114 | 32 => 115 | 33 => 116 | 35 => 120 | 34 => 119 | 36 => 121 | 37 => 122 | 38 => 123 | 39 => 125 | 40 => 126 | n => n, fun | 9 => 9 | 3 => 3 | 22 => 22 | 24 => 61 | 25 => 95 | 4 => 4 | 34 => 115 | 5 => 5 | 36 => 117 | 37 => 118 | 0 => 0 | 39 => 119 | 21 => 21 | 44 => 129 | 47 => 137 | 50 => 112 | 48 => 110 | 2 => 2 | 52 => 122 | 55 => 125 | 59 => 132 | 60 => 133 | 20 => 20 | 61 => 134 | 65 => 140 | 66 => 141 | 67 => 85 | n => n, fun | 0 => 7 | 1 => 8 | 2 => 9 | 3 => 10 | 4 => 11 | n => n⟩
theorem Tryd.laysPu14 : Go.Proofs.LaysPu.n14 Tryd.prog Tryd.laysPu14_ren := {
  mixed := by kernel_rfl
  f14 := Tryd.func91.trans (congrArg some (by kernel_rfl))
  f16 := Tryd.func101.trans (congrArg some (by kernel_rfl))
  f17 := Tryd.func102.trans (congrArg some (by kernel_rfl))
  f19 := Tryd.func107.trans (congrArg some (by kernel_rfl))
  f20 := Tryd.func108.trans (congrArg some (by kernel_rfl))
  f21 := Tryd.func109.trans (congrArg some (by kernel_rfl))
  f22 := Tryd.func110.trans (congrArg some (by kernel_rfl))
  f23 := Tryd.func111.trans (congrArg some (by kernel_rfl))
  f24 := Tryd.func112.trans (congrArg some (by kernel_rfl))
  f25 := Tryd.func117.trans (congrArg some (by kernel_rfl))
  f26 := Tryd.func96.trans (congrArg some (by kernel_rfl))
  f27 := Tryd.func118.trans (congrArg some (by kernel_rfl))
  f28 := Tryd.func124.trans (congrArg some (by kernel_rfl))
  f29 := Tryd.func127.trans (congrArg some (by kernel_rfl))
  f30 := Tryd.func113.trans (congrArg some (by kernel_rfl))
  f31 := Tryd.func114.trans (congrArg some (by kernel_rfl))
  f32 := Tryd.func115.trans (congrArg some (by kernel_rfl))
  f33 := Tryd.func116.trans (congrArg some (by kernel_rfl))
  f34 := Tryd.func119.trans (congrArg some (by kernel_rfl))
  f35 := Tryd.func120.trans (congrArg some (by kernel_rfl))
  f36 := Tryd.func121.trans (congrArg some (by kernel_rfl))
  f37 := Tryd.func122.trans (congrArg some (by kernel_rfl))
  f38 := Tryd.func123.trans (congrArg some (by kernel_rfl))
  f39 := Tryd.func125.trans (congrArg some (by kernel_rfl))
  f40 := Tryd.func126.trans (congrArg some (by kernel_rfl))
  t0 := Tryd.underlying0
  a0 := Tryd.isAgg0
  z0 := Tryd.sizeOf0
  v0 := Tryd.zeroValue0
  i0 := by kernel_rfl
  t2 := Tryd.underlying2
  a2 := Tryd.isAgg2
  z2 := Tryd.sizeOf2
  v2 := Tryd.zeroValue2
  i2 := by kernel_rfl
  t3 := Tryd.underlying3
  a3 := Tryd.isAgg3
  z3 := Tryd.sizeOf3
  v3 := Tryd.zeroValue3
  i3 := by kernel_rfl
  t4 := Tryd.underlying4
  a4 := Tryd.isAgg4
  z4 := Tryd.sizeOf4
  v4 := Tryd.zeroValue4
  i4 := by kernel_rfl
  t5 := Tryd.underlying5
  a5 := Tryd.isAgg5
  z5 := Tryd.sizeOf5
  v5 := Tryd.zeroValue5
  i5 := by kernel_rfl
  t9 := Tryd.underlying9
  a9 := Tryd.isAgg9
  z9 := Tryd.sizeOf9
  v9 := Tryd.zeroValue9
  i9 := by kernel_rfl
  t20 := Tryd.underlying20
  a20 := Tryd.isAgg20
  z20 := Tryd.sizeOf20
  v20 := Tryd.zeroValue20
  i20 := by kernel_rfl
  t21 := Tryd.underlying21
  a21 := Tryd.isAgg21
  z21 := Tryd.sizeOf21
  v21 := Tryd.zeroValue21
  i21 := by kernel_rfl
  t22 := Tryd.underlying22
  a22 := Tryd.isAgg22
  z22 := Tryd.sizeOf22
  v22 := Tryd.zeroValue22
  i22 := by kernel_rfl
  t24 := Tryd.underlying61
  a24 := Tryd.isAgg61
  z24 := Tryd.sizeOf61
  v24 := Tryd.zeroValue61
  i24 := by kernel_rfl
  t25 := Tryd.underlying95
  a25 := Tryd.isAgg95
  z25 := Tryd.sizeOf95
  v25 := Tryd.zeroValue95
  i25 := by kernel_rfl
  t34 := Tryd.underlying115
  a34 := Tryd.isAgg115
  z34 := Tryd.sizeOf115
  v34 := Tryd.zeroValue115
  i34 := by kernel_rfl
  c34 := by kernel_rfl
  t36 := Tryd.underlying117
  a36 := Tryd.isAgg117
  z36 := Tryd.sizeOf117
  v36 := Tryd.zeroValue117
  i36 := by kernel_rfl
  t37 := Tryd.underlying118
  a37 := Tryd.isAgg118
  z37 := Tryd.sizeOf118
  v37 := Tryd.zeroValue118
  i37 := by kernel_rfl
  t39 := Tryd.underlying119
  a39 := Tryd.isAgg119
  z39 := Tryd.sizeOf119
  v39 := Tryd.zeroValue119
  i39 := by kernel_rfl
  t44 := Tryd.underlying129
  a44 := Tryd.isAgg129
  z44 := Tryd.sizeOf129
  v44 := Tryd.zeroValue129
  i44 := by kernel_rfl
  t47 := Tryd.underlying137
  a47 := Tryd.isAgg137
  z47 := Tryd.sizeOf137
  v47 := Tryd.zeroValue137
  i47 := by kernel_rfl
  t48 := Tryd.underlying110
  a48 := Tryd.isAgg110
  z48 := Tryd.sizeOf110
  v48 := Tryd.zeroValue110
  i48 := by kernel_rfl
  t50 := Tryd.underlying112
  a50 := Tryd.isAgg112
  z50 := Tryd.sizeOf112
  v50 := Tryd.zeroValue112
  i50 := by kernel_rfl
  t52 := Tryd.underlying122
  a52 := Tryd.isAgg122
  z52 := Tryd.sizeOf122
  v52 := Tryd.zeroValue122
  i52 := by kernel_rfl
  t55 := Tryd.underlying125
  a55 := Tryd.isAgg125
  z55 := Tryd.sizeOf125
  v55 := Tryd.zeroValue125
  i55 := by kernel_rfl
  t59 := Tryd.underlying132
  a59 := Tryd.isAgg132
  z59 := Tryd.sizeOf132
  v59 := Tryd.zeroValue132
  i59 := by kernel_rfl
  t60 := Tryd.underlying133
  a60 := Tryd.isAgg133
  z60 := Tryd.sizeOf133
  v60 := Tryd.zeroValue133
  i60 := by kernel_rfl
  t61 := Tryd.underlying134
  a61 := Tryd.isAgg134
  z61 := Tryd.sizeOf134
  t65 := Tryd.underlying140
  a65 := Tryd.isAgg140
  z65 := Tryd.sizeOf140
  v65 := Tryd.zeroValue140
  i65 := by kernel_rfl
  t66 := Tryd.underlying141
  a66 := Tryd.isAgg141
  z66 := Tryd.sizeOf141
  v66 := Tryd.zeroValue141
  i66 := by kernel_rfl
  t67 := Tryd.underlying85
  a67 := Tryd.isAgg85
  z67 := Tryd.sizeOf85
  v67 := Tryd.zeroValue85
  i67 := by kernel_rfl
  g0 := by kernel_rfl
  m0 := by kernel_rfl
  g1 := by kernel_rfl
  m1 := by kernel_rfl
  g2 := by kernel_rfl
  m2 := by kernel_rfl
  g3 := by kernel_rfl
  m3 := by kernel_rfl
  g4 := by kernel_rfl
  m4 := by kernel_rfl }
open Go.RowKit in
/-- strconv.ParseUint(s, 10, 0), AT EVERY STRING THAT SPELLS A uint64 ('Lib.parseUintB 64 s.data.toList = .ok u'): u, AND NO ERROR. (LAID: no walk: one application.) -/
theorem Tryd.strconv_ParseUint_10_at0_ok (s : ByteArray) (hmax : s.size ≤ 9223372036854775806) (u : Nat) (h : Lib.parseUintB 64 s.data.toList = .ok u) (w : World) :
    Calls Tryd.prog 91 #[.string s, .int .i64 10, .int .i64 0] w fun e w' => e = .returned (.tuple #[.int .u64 u, .nilIface]) ∧ (w' = w ∨ w' = Lib.bytesWorld w 5 s) := Any.strconv_ParseUint_10_at0_ok Tryd.laysPu14 s hmax u h w
open Go.RowKit in
/-- strconv.ParseUint(s, 10, 0), AT EVERY NUMERAL THAT NO uint64 HOLDS: THE GREATEST uint64, AND AN ERROR THAT IS NOT nil: a *NumError in a new block N: {Func: "ParseUint", Num: s's bytes, Err: what the variable ErrRange holds}. Of what was there nothing has turned. (LAID: no walk: one application.) -/
theorem Tryd.strconv_ParseUint_10_at0_range (s : ByteArray) (hlim : s.size ≤ 281474976710656) (h : Lib.parseUintB 64 s.data.toList = .range) (ev : Value) (w : World) (hv : w.cell? ⟨8, 0, none⟩ = some ev) (hev : ev = .nilIface ∨ ∃ te pe, ev = .iface te pe) :
    Calls Tryd.prog 91 #[.string s, .int .i64 10, .int .i64 0] w fun e w' => ∃ N, e = .returned (.tuple #[.int .u64 18446744073709551615, .iface 119 (.pointer (some ⟨N, 0, none⟩))]) ∧ w.heap.size ≤ N ∧ w'.heap[N]? = some (.cells #[.string ⟨#[80, 97, 114, 115, 101, 85, 105, 110, 116]⟩, .string s, ev] 129 (0, 0)) ∧ Below w.heap.size w w' := Any.strconv_ParseUint_10_at0_range Tryd.laysPu14 s hlim h ev w hv hev
open Go.RowKit in
/-- strconv.ParseUint(s, 10, 64), AT EVERY STRING THAT SPELLS A uint64 ('Lib.parseUintB 64 s.data.toList = .ok u'): u, AND NO ERROR. (LAID: no walk: one application.) -/
theorem Tryd.strconv_ParseUint_10_at64_ok (s : ByteArray) (hmax : s.size ≤ 9223372036854775806) (u : Nat) (h : Lib.parseUintB 64 s.data.toList = .ok u) (w : World) :
    Calls Tryd.prog 91 #[.string s, .int .i64 10, .int .i64 64] w fun e w' => e = .returned (.tuple #[.int .u64 u, .nilIface]) ∧ (w' = w ∨ w' = Lib.bytesWorld w 5 s) := Any.strconv_ParseUint_10_at64_ok Tryd.laysPu14 s hmax u h w
open Go.RowKit in
/-- strconv.ParseUint(s, 10, 64), AT EVERY NUMERAL THAT NO uint64 HOLDS: THE GREATEST uint64, AND AN ERROR THAT IS NOT nil: a *NumError in a new block N: {Func: "ParseUint", Num: s's bytes, Err: what the variable ErrRange holds}. Of what was there nothing has turned. (LAID: no walk: one application.) -/
theorem Tryd.strconv_ParseUint_10_at64_range (s : ByteArray) (hlim : s.size ≤ 281474976710656) (h : Lib.parseUintB 64 s.data.toList = .range) (ev : Value) (w : World) (hv : w.cell? ⟨8, 0, none⟩ = some ev) (hev : ev = .nilIface ∨ ∃ te pe, ev = .iface te pe) :
    Calls Tryd.prog 91 #[.string s, .int .i64 10, .int .i64 64] w fun e w' => ∃ N, e = .returned (.tuple #[.int .u64 18446744073709551615, .iface 119 (.pointer (some ⟨N, 0, none⟩))]) ∧ w.heap.size ≤ N ∧ w'.heap[N]? = some (.cells #[.string ⟨#[80, 97, 114, 115, 101, 85, 105, 110, 116]⟩, .string s, ev] 129 (0, 0)) ∧ Below w.heap.size w w' := Any.strconv_ParseUint_10_at64_range Tryd.laysPu14 s hlim h ev w hv hev
open Go.RowKit in
/-- strconv.ParseUint(s, 10, 32), AT EVERY STRING THAT SPELLS A uint32 ('Lib.parseUintB 32 s.data.toList = .ok u'): u, AND NO ERROR. (LAID: no walk: one application.) -/
theorem Tryd.strconv_ParseUint_10_at32_ok (s : ByteArray) (hmax : s.size ≤ 9223372036854775806) (u : Nat) (h : Lib.parseUintB 32 s.data.toList = .ok u) (w : World) :
    Calls Tryd.prog 91 #[.string s, .int .i64 10, .int .i64 32] w fun e w' => e = .returned (.tuple #[.int .u64 u, .nilIface]) ∧ (w' = w ∨ w' = Lib.bytesWorld w 5 s) := Any.strconv_ParseUint_10_at32_ok Tryd.laysPu14 s hmax u h w
open Go.RowKit in
/-- strconv.ParseUint(s, 10, 32), AT EVERY NUMERAL THAT NO uint32 HOLDS: THE GREATEST uint32, AND AN ERROR THAT IS NOT nil: a *NumError in a new block N: {Func: "ParseUint", Num: s's bytes, Err: what the variable ErrRange holds}. Of what was there nothing has turned. (LAID: no walk: one application.) -/
theorem Tryd.strconv_ParseUint_10_at32_range (s : ByteArray) (hlim : s.size ≤ 281474976710656) (h : Lib.parseUintB 32 s.data.toList = .range) (ev : Value) (w : World) (hv : w.cell? ⟨8, 0, none⟩ = some ev) (hev : ev = .nilIface ∨ ∃ te pe, ev = .iface te pe) :
    Calls Tryd.prog 91 #[.string s, .int .i64 10, .int .i64 32] w fun e w' => ∃ N, e = .returned (.tuple #[.int .u64 4294967295, .iface 119 (.pointer (some ⟨N, 0, none⟩))]) ∧ w.heap.size ≤ N ∧ w'.heap[N]? = some (.cells #[.string ⟨#[80, 97, 114, 115, 101, 85, 105, 110, 116]⟩, .string s, ev] 129 (0, 0)) ∧ Below w.heap.size w w' := Any.strconv_ParseUint_10_at32_range Tryd.laysPu14 s hlim h ev w hv hev
open Go.RowKit in
/-- strconv.ParseUint(s, 10, 16), AT EVERY STRING THAT SPELLS A uint16 ('Lib.parseUintB 16 s.data.toList = .ok u'): u, AND NO ERROR. (LAID: no walk: one application.) -/
theorem Tryd.strconv_ParseUint_10_at16_ok (s : ByteArray) (hmax : s.size ≤ 9223372036854775806) (u : Nat) (h : Lib.parseUintB 16 s.data.toList = .ok u) (w : World) :
    Calls Tryd.prog 91 #[.string s, .int .i64 10, .int .i64 16] w fun e w' => e = .returned (.tuple #[.int .u64 u, .nilIface]) ∧ (w' = w ∨ w' = Lib.bytesWorld w 5 s) := Any.strconv_ParseUint_10_at16_ok Tryd.laysPu14 s hmax u h w
open Go.RowKit in
/-- strconv.ParseUint(s, 10, 16), AT EVERY NUMERAL THAT NO uint16 HOLDS: THE GREATEST uint16, AND AN ERROR THAT IS NOT nil: a *NumError in a new block N: {Func: "ParseUint", Num: s's bytes, Err: what the variable ErrRange holds}. Of what was there nothing has turned. (LAID: no walk: one application.) -/
theorem Tryd.strconv_ParseUint_10_at16_range (s : ByteArray) (hlim : s.size ≤ 281474976710656) (h : Lib.parseUintB 16 s.data.toList = .range) (ev : Value) (w : World) (hv : w.cell? ⟨8, 0, none⟩ = some ev) (hev : ev = .nilIface ∨ ∃ te pe, ev = .iface te pe) :
    Calls Tryd.prog 91 #[.string s, .int .i64 10, .int .i64 16] w fun e w' => ∃ N, e = .returned (.tuple #[.int .u64 65535, .iface 119 (.pointer (some ⟨N, 0, none⟩))]) ∧ w.heap.size ≤ N ∧ w'.heap[N]? = some (.cells #[.string ⟨#[80, 97, 114, 115, 101, 85, 105, 110, 116]⟩, .string s, ev] 129 (0, 0)) ∧ Below w.heap.size w w' := Any.strconv_ParseUint_10_at16_range Tryd.laysPu14 s hlim h ev w hv hev
open Go.RowKit in
/-- strconv.ParseUint(s, 10, 8), AT EVERY STRING THAT SPELLS A uint8 ('Lib.parseUintB 8 s.data.toList = .ok u'): u, AND NO ERROR. (LAID: no walk: one application.) -/
theorem Tryd.strconv_ParseUint_10_at8_ok (s : ByteArray) (hmax : s.size ≤ 9223372036854775806) (u : Nat) (h : Lib.parseUintB 8 s.data.toList = .ok u) (w : World) :
    Calls Tryd.prog 91 #[.string s, .int .i64 10, .int .i64 8] w fun e w' => e = .returned (.tuple #[.int .u64 u, .nilIface]) ∧ (w' = w ∨ w' = Lib.bytesWorld w 5 s) := Any.strconv_ParseUint_10_at8_ok Tryd.laysPu14 s hmax u h w
open Go.RowKit in
/-- strconv.ParseUint(s, 10, 8), AT EVERY NUMERAL THAT NO uint8 HOLDS: THE GREATEST uint8, AND AN ERROR THAT IS NOT nil: a *NumError in a new block N: {Func: "ParseUint", Num: s's bytes, Err: what the variable ErrRange holds}. Of what was there nothing has turned. (LAID: no walk: one application.) -/
theorem Tryd.strconv_ParseUint_10_at8_range (s : ByteArray) (hlim : s.size ≤ 281474976710656) (h : Lib.parseUintB 8 s.data.toList = .range) (ev : Value) (w : World) (hv : w.cell? ⟨8, 0, none⟩ = some ev) (hev : ev = .nilIface ∨ ∃ te pe, ev = .iface te pe) :
    Calls Tryd.prog 91 #[.string s, .int .i64 10, .int .i64 8] w fun e w' => ∃ N, e = .returned (.tuple #[.int .u64 255, .iface 119 (.pointer (some ⟨N, 0, none⟩))]) ∧ w.heap.size ≤ N ∧ w'.heap[N]? = some (.cells #[.string ⟨#[80, 97, 114, 115, 101, 85, 105, 110, 116]⟩, .string s, ev] 129 (0, 0)) ∧ Below w.heap.size w w' := Any.strconv_ParseUint_10_at8_range Tryd.laysPu14 s hlim h ev w hv hev
open Go.RowKit in
theorem Tryd.strconv_ParseUint_10_at0_range_var (s : ByteArray) (hlim : s.size ≤ 281474976710656) (h : Lib.parseUintB 64 s.data.toList = .range) (tp : TypeId) (p : Value) (w : World) (hvar : w.var? Tryd.prog "strconv.ErrRange" = some #[.iface tp p]) :
    Calls Tryd.prog 91 #[.string s, .int .i64 10, .int .i64 0] w fun e w' => ∃ N, e = .returned (.tuple #[.int .u64 18446744073709551615, .iface 119 (.pointer (some ⟨N, 0, none⟩))]) ∧ w.heap.size ≤ N ∧ w'.heap[N]? = some (.cells #[.string ⟨#[80, 97, 114, 115, 101, 85, 105, 110, 116]⟩, .string s, .iface tp p] 129 (0, 0)) ∧ Below w.heap.size w w' := Any.strconv_ParseUint_10_at0_range_var Tryd.laysPu14 s hlim h tp p w hvar
open Go.RowKit in
theorem Tryd.strconv_ParseUint_10_at64_range_var (s : ByteArray) (hlim : s.size ≤ 281474976710656) (h : Lib.parseUintB 64 s.data.toList = .range) (tp : TypeId) (p : Value) (w : World) (hvar : w.var? Tryd.prog "strconv.ErrRange" = some #[.iface tp p]) :
    Calls Tryd.prog 91 #[.string s, .int .i64 10, .int .i64 64] w fun e w' => ∃ N, e = .returned (.tuple #[.int .u64 18446744073709551615, .iface 119 (.pointer (some ⟨N, 0, none⟩))]) ∧ w.heap.size ≤ N ∧ w'.heap[N]? = some (.cells #[.string ⟨#[80, 97, 114, 115, 101, 85, 105, 110, 116]⟩, .string s, .iface tp p] 129 (0, 0)) ∧ Below w.heap.size w w' := Any.strconv_ParseUint_10_at64_range_var Tryd.laysPu14 s hlim h tp p w hvar
open Go.RowKit in
theorem Tryd.strconv_ParseUint_10_at32_range_var (s : ByteArray) (hlim : s.size ≤ 281474976710656) (h : Lib.parseUintB 32 s.data.toList = .range) (tp : TypeId) (p : Value) (w : World) (hvar : w.var? Tryd.prog "strconv.ErrRange" = some #[.iface tp p]) :
    Calls Tryd.prog 91 #[.string s, .int .i64 10, .int .i64 32] w fun e w' => ∃ N, e = .returned (.tuple #[.int .u64 4294967295, .iface 119 (.pointer (some ⟨N, 0, none⟩))]) ∧ w.heap.size ≤ N ∧ w'.heap[N]? = some (.cells #[.string ⟨#[80, 97, 114, 115, 101, 85, 105, 110, 116]⟩, .string s, .iface tp p] 129 (0, 0)) ∧ Below w.heap.size w w' := Any.strconv_ParseUint_10_at32_range_var Tryd.laysPu14 s hlim h tp p w hvar
open Go.RowKit in
theorem Tryd.strconv_ParseUint_10_at16_range_var (s : ByteArray) (hlim : s.size ≤ 281474976710656) (h : Lib.parseUintB 16 s.data.toList = .range) (tp : TypeId) (p : Value) (w : World) (hvar : w.var? Tryd.prog "strconv.ErrRange" = some #[.iface tp p]) :
    Calls Tryd.prog 91 #[.string s, .int .i64 10, .int .i64 16] w fun e w' => ∃ N, e = .returned (.tuple #[.int .u64 65535, .iface 119 (.pointer (some ⟨N, 0, none⟩))]) ∧ w.heap.size ≤ N ∧ w'.heap[N]? = some (.cells #[.string ⟨#[80, 97, 114, 115, 101, 85, 105, 110, 116]⟩, .string s, .iface tp p] 129 (0, 0)) ∧ Below w.heap.size w w' := Any.strconv_ParseUint_10_at16_range_var Tryd.laysPu14 s hlim h tp p w hvar
open Go.RowKit in
theorem Tryd.strconv_ParseUint_10_at8_range_var (s : ByteArray) (hlim : s.size ≤ 281474976710656) (h : Lib.parseUintB 8 s.data.toList = .range) (tp : TypeId) (p : Value) (w : World) (hvar : w.var? Tryd.prog "strconv.ErrRange" = some #[.iface tp p]) :
    Calls Tryd.prog 91 #[.string s, .int .i64 10, .int .i64 8] w fun e w' => ∃ N, e = .returned (.tuple #[.int .u64 255, .iface 119 (.pointer (some ⟨N, 0, none⟩))]) ∧ w.heap.size ≤ N ∧ w'.heap[N]? = some (.cells #[.string ⟨#[80, 97, 114, 115, 101, 85, 105, 110, 116]⟩, .string s, .iface tp p] 129 (0, 0)) ∧ Below w.heap.size w w' := Any.strconv_ParseUint_10_at8_range_var Tryd.laysPu14 s hlim h tp p w hvar
def Tryd.lays315_ren : Go.Shelf.Ren := ⟨fun | 315 => 105 | n => n, fun | 9 => 9 | 40 => 106 | 4 => 4 | 3 => 3 | 0 => 0 | 21 => 21 | n => n, fun | n => n⟩
theorem Tryd.lays315 : Go.Proofs.Lays.n315 Tryd.prog Tryd.lays315_ren := {
  mixed := by kernel_rfl
  f315 := Tryd.func105.trans (congrArg some (by kernel_rfl))
  t0 := Tryd.underlying0
  a0 := Tryd.isAgg0
  z0 := Tryd.sizeOf0
  v0 := Tryd.zeroValue0
  t3 := Tryd.underlying3
  a3 := Tryd.isAgg3
  z3 := Tryd.sizeOf3
  v3 := Tryd.zeroValue3
  t4 := Tryd.underlying4
  a4 := Tryd.isAgg4
  z4 := Tryd.sizeOf4
  v4 := Tryd.zeroValue4
  t9 := Tryd.underlying9
  a9 := Tryd.isAgg9
  z9 := Tryd.sizeOf9
  v9 := Tryd.zeroValue9
  t21 := Tryd.underlying21
  a21 := Tryd.isAgg21
  z21 := Tryd.sizeOf21
  v21 := Tryd.zeroValue21
  t40 := Tryd.underlying106
  a40 := Tryd.isAgg106
  z40 := Tryd.sizeOf106
  v40 := Tryd.zeroValue106 }
open Go.RowKit Go.Lib in
theorem Tryd.strings_indexFunc (g : Nat) (lb : Array Value) (eg : ∀ args w, (callFunc g args).run Tryd.prog w = .ok (.enter g args) w) (p : Nat → Bool) (truth : Bool) (s : ByteArray) (w : World) (hp : PredAt Tryd.prog g lb encR p w) :
    Calls Tryd.prog 105 #[.string s, .func (.func g) #[] lb, .bool truth] w fun e w' => e = .returned (.int .i64 (Lib.idxFunc p truth s)) ∧ Below w.heap.size w w' := Any.strings_indexFunc Tryd.lays315 g lb eg p truth s w hp
def Tryd.laysGw15_ren : Go.Shelf.Ren := ⟨fun | 15 => 98 | 20 => 105 | n => n, fun | 9 => 9 | 23 => 106 | 3 => 3 | 4 => 4 | 0 => 0 | 21 => 21 | n => n, fun | n => n⟩
theorem Tryd.laysGw15 : Go.Proofs.LaysGw.n15 Tryd.prog Tryd.laysGw15_ren := {
  mixed := by kernel_rfl
  f15 := Tryd.func98.trans (congrArg some (by kernel_rfl))
  f20 := Tryd.func105.trans (congrArg some (by kernel_rfl))
  t0 := Tryd.underlying0
  a0 := Tryd.isAgg0
  z0 := Tryd.sizeOf0
  v0 := Tryd.zeroValue0
  i0 := by kernel_rfl
  t3 := Tryd.underlying3
  a3 := Tryd.isAgg3
  z3 := Tryd.sizeOf3
  v3 := Tryd.zeroValue3
  i3 := by kernel_rfl
  t4 := Tryd.underlying4
  a4 := Tryd.isAgg4
  z4 := Tryd.sizeOf4
  v4 := Tryd.zeroValue4
  i4 := by kernel_rfl
  t9 := Tryd.underlying9
  a9 := Tryd.isAgg9
  z9 := Tryd.sizeOf9
  v9 := Tryd.zeroValue9
  i9 := by kernel_rfl
  t21 := Tryd.underlying21
  a21 := Tryd.isAgg21
  z21 := Tryd.sizeOf21
  v21 := Tryd.zeroValue21
  i21 := by kernel_rfl
  t23 := Tryd.underlying106
  a23 := Tryd.isAgg106
  z23 := Tryd.sizeOf106
  v23 := Tryd.zeroValue106
  i23 := by kernel_rfl }
open Go.RowKit Go.Lib in
theorem Tryd.strings_IndexFunc (g : Nat) (lb : Array Value) (eg : ∀ args w, (callFunc g args).run Tryd.prog w = .ok (.enter g args) w) (p : Nat → Bool) (s : ByteArray) (w : World) (hp : PredAt Tryd.prog g lb encR p w) :
    Calls Tryd.prog 98 #[.string s, .func (.func g) #[] lb] w fun e w' => e = .returned (.int .i64 (Lib.idxFunc p true s)) ∧ Below w.heap.size w w' := Any.strings_IndexFunc Tryd.laysGw15 g lb eg p s w hp
open Go.RowKit Go.Lib in
theorem Tryd.strings_indexFunc_runes (g : Nat) (lb : Array Value) (eg : ∀ args w, (callFunc g args).run Tryd.prog w = .ok (.enter g args) w) (p : Nat → Bool) (truth : Bool) (s : ByteArray) (w : World) (hp : PredAtRunes Tryd.prog g lb p w) :
    Calls Tryd.prog 105 #[.string s, .func (.func g) #[] lb, .bool truth] w fun e w' => e = .returned (.int .i64 (Lib.idxFunc p truth s)) ∧ Below w.heap.size w w' := Any.strings_indexFunc_runes Tryd.lays315 g lb eg p truth s w hp
open Go.RowKit Go.Lib in
theorem Tryd.strings_IndexFunc_runes (g : Nat) (lb : Array Value) (eg : ∀ args w, (callFunc g args).run Tryd.prog w = .ok (.enter g args) w) (p : Nat → Bool) (s : ByteArray) (w : World) (hp : PredAtRunes Tryd.prog g lb p w) :
    Calls Tryd.prog 98 #[.string s, .func (.func g) #[] lb] w fun e w' => e = .returned (.int .i64 (Lib.idxFunc p true s)) ∧ Below w.heap.size w w' := Any.strings_IndexFunc_runes Tryd.laysGw15 g lb eg p s w hp
open Go.RowKit Go.Lib in
theorem Tryd.strings_indexFunc_grows (g : Nat) (lb : Array Value) (eg : ∀ args w, (callFunc g args).run Tryd.prog w = .ok (.enter g args) w) (p : Nat → Bool) (truth : Bool) (s : ByteArray) (w : World) (hp : PredGrows Tryd.prog g lb p w) :
    Calls Tryd.prog 105 #[.string s, .func (.func g) #[] lb, .bool truth] w fun e w' => e = .returned (.int .i64 (Lib.idxFunc p truth s)) ∧ Below w.heap.size w w' := Any.strings_indexFunc_grows Tryd.lays315 g lb eg p truth s w hp
open Go.RowKit Go.Lib in
theorem Tryd.strings_IndexFunc_grows (g : Nat) (lb : Array Value) (eg : ∀ args w, (callFunc g args).run Tryd.prog w = .ok (.enter g args) w) (p : Nat → Bool) (s : ByteArray) (w : World) (hp : PredGrows Tryd.prog g lb p w) :
    Calls Tryd.prog 98 #[.string s, .func (.func g) #[] lb] w fun e w' => e = .returned (.int .i64 (Lib.idxFunc p true s)) ∧ Below w.heap.size w w' := Any.strings_IndexFunc_grows Tryd.laysGw15 g lb eg p s w hp
end Go.Proofs
