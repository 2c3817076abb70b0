/-
  DERIVED: THE SHELF's CONTRACTS AT THIS DUMP, IN PLAIN WORDS (tools/lay-plain.mjs out of 'TryzShelf.lean', which tools/lay-shelf.mjs wrote): THE SAME DECLARATIONS UNDER THE SAME YtaaogjhaokaggaaGreatDoorS: 'import', 'namespace', 'open', 'def', 'theorem' AND NOTHING ELSE: no command of the shelf's: FOR A HAND-IN. Each laying: the table of numbers ('.._ren') and one theorem, a field a fact of the dump's own or the kernel's comparison; each contract: ONE APPLICATION.
-/
import Derived.Test.YtaaogjhaokaggaaGreatDoorProg
import Derived.Shelf.Small.Utf8
import Derived.Shelf.Small.Wraps
import Derived.Shelf.Strconv.Itoa0
import Derived.Shelf.Strconv.Itoa1
import Derived.Shelf.LaysM
import Derived.Shelf.Strconv.Itoa2
import Derived.Shelf.Strconv.Itoa3
import Derived.Shelf.Strconv.Itoa4
import Derived.Shelf.Strconv.AppendUint10
import Derived.Shelf.Strings.Prefix
import Derived.Shelf.Bits.Mul64
import Derived.Shelf.Bytes.SlEqualAll
import Derived.Shelf.Bytes.Small
namespace Go.Proofs
open Go.Shelf
def Tryz.lays119_ren : Go.Shelf.Ren := ⟨fun | 119 => 190 | n => n, fun | 21 => 21 | 4 => 4 | n => n, fun | n => n⟩
theorem Tryz.lays119 : Go.Proofs.Lays.n119 Tryz.prog Tryz.lays119_ren := {
  mixed := by kernel_rfl
  f119 := Tryz.func190.trans (congrArg some (by kernel_rfl))
  t4 := Tryz.underlying4
  a4 := Tryz.isAgg4
  z4 := Tryz.sizeOf4
  v4 := Tryz.zeroValue4
  t21 := Tryz.underlying21
  a21 := Tryz.isAgg21
  z21 := Tryz.sizeOf21
  v21 := Tryz.zeroValue21 }
/-- utf8.ValidRune: "ValidRune reports whether r can be legally encoded as UTF-8. Code points that are out of range or a surrogate half are illegal.": IT RETURNS 'Lib.validRune r'; the world is as it was. (LAID: no walk: one application.) -/
theorem Tryz.utf8_ValidRune (r : Int) (w : World) :
    Calls Tryz.prog 190 #[.int .i32 r] w fun e w' => e = .returned (.bool (Lib.validRune r)) ∧ w' = w := Any.utf8_ValidRune Tryz.lays119 r w
def Tryz.lays214_ren : Go.Shelf.Ren := ⟨fun | 214 => 76 | n => n, fun | 4 => 4 | 9 => 9 | n => n, fun | n => n⟩
theorem Tryz.lays214 : Go.Proofs.Lays.n214 Tryz.prog Tryz.lays214_ren := {
  mixed := by kernel_rfl
  f214 := Tryz.func76.trans (congrArg some (by kernel_rfl))
  t4 := Tryz.underlying4
  a4 := Tryz.isAgg4
  z4 := Tryz.sizeOf4
  v4 := Tryz.zeroValue4
  t9 := Tryz.underlying9
  a9 := Tryz.isAgg9
  z9 := Tryz.sizeOf9
  v9 := Tryz.zeroValue9 }
open Go.RowKit in
/-- internal/strconv.FormatBool (what strconv.FormatBool calls). (LAID: no walk: one application.) -/
theorem Tryz.internal_strconv_FormatBool (b : Bool) (w : World) :
    Calls Tryz.prog 76 #[.bool b] w fun e w' => e = .returned (.string ⟨(Lib.formatBool b).toArray⟩) ∧ w' = w := Any.internal_strconv_FormatBool Tryz.lays214 b w
def Tryz.lays121_ren : Go.Shelf.Ren := ⟨fun | 121 => 41 | 214 => 76 | n => n, fun | 4 => 4 | 9 => 9 | n => n, fun | n => n⟩
theorem Tryz.lays121 : Go.Proofs.Lays.n121 Tryz.prog Tryz.lays121_ren := {
  mixed := by kernel_rfl
  f121 := Tryz.func41.trans (congrArg some (by kernel_rfl))
  f214 := Tryz.func76.trans (congrArg some (by kernel_rfl))
  t4 := Tryz.underlying4
  a4 := Tryz.isAgg4
  z4 := Tryz.sizeOf4
  v4 := Tryz.zeroValue4
  t9 := Tryz.underlying9
  a9 := Tryz.isAgg9
  z9 := Tryz.sizeOf9
  v9 := Tryz.zeroValue9 }
open Go.RowKit in
/-- strconv.FormatBool: "FormatBool returns "true" or "false" according to the value of b.": IT RETURNS 'Lib.formatBool b'; the world is as it was. (LAID: no walk: one application.) -/
theorem Tryz.strconv_FormatBool (b : Bool) (w : World) :
    Calls Tryz.prog 41 #[.bool b] w fun e w' => e = .returned (.string ⟨(Lib.formatBool b).toArray⟩) ∧ w' = w := Any.strconv_FormatBool Tryz.lays121 b w
def Tryz.lays129_ren : Go.Shelf.Ren := ⟨fun | 129 => 126 | n => n, fun | 53 => 22 | 3 => 3 | 4 => 4 | 46 => 166 | 5 => 5 | 9 => 9 | n => n, fun | n => n⟩
theorem Tryz.lays129 : Go.Proofs.Lays.n129 Tryz.prog Tryz.lays129_ren := {
  mixed := by kernel_rfl
  f129 := Tryz.func126.trans (congrArg some (by kernel_rfl))
  t3 := Tryz.underlying3
  a3 := Tryz.isAgg3
  z3 := Tryz.sizeOf3
  v3 := Tryz.zeroValue3
  t4 := Tryz.underlying4
  a4 := Tryz.isAgg4
  z4 := Tryz.sizeOf4
  v4 := Tryz.zeroValue4
  t5 := Tryz.underlying5
  a5 := Tryz.isAgg5
  z5 := Tryz.sizeOf5
  v5 := Tryz.zeroValue5
  t9 := Tryz.underlying9
  a9 := Tryz.isAgg9
  z9 := Tryz.sizeOf9
  v9 := Tryz.zeroValue9
  t46 := Tryz.underlying166
  a46 := Tryz.isAgg166
  z46 := Tryz.sizeOf166
  v46 := Tryz.zeroValue166
  t53 := Tryz.underlying22
  a53 := Tryz.isAgg22
  z53 := Tryz.sizeOf22
  v53 := Tryz.zeroValue22 }
/-- bits.Len64: "Len64 returns the minimum number of bits required to represent x; the result is 0 for x == 0.": IT RETURNS 'Lib.bitLen x'; the world is as it was. ('h0', 'h1': x is a uint64.) (LAID: no walk: one application.) -/
theorem Tryz.bits_Len64 (x : Int) (w : World) (h0 : 0 ≤ x) (h1 : x ≤ 18446744073709551615) :
    Calls Tryz.prog 126 #[.int .u64 x] w fun e w' => e = .returned (.int .i64 (Lib.bitLen x.toNat)) ∧ w' = w := Any.bits_Len64 Tryz.lays129 x w h0 h1
def Tryz.lays317_ren : Go.Shelf.Ren := ⟨fun | 317 => 125 | n => n, fun | 3 => 3 | 46 => 166 | n => n, fun | n => n⟩
theorem Tryz.lays317 : Go.Proofs.Lays.n317 Tryz.prog Tryz.lays317_ren := {
  mixed := by kernel_rfl
  f317 := Tryz.func125.trans (congrArg some (by kernel_rfl))
  t3 := Tryz.underlying3
  a3 := Tryz.isAgg3
  z3 := Tryz.sizeOf3
  v3 := Tryz.zeroValue3
  t46 := Tryz.underlying166
  a46 := Tryz.isAgg166
  z46 := Tryz.sizeOf166
  v46 := Tryz.zeroValue166 }
open Go.Lib in
/-- internal/strconv.log10Pow2: "log10Pow2(x) returns ⌊log₁₀ 2**x⌋ = ⌊x * log₁₀ 2⌋.": '(x * 78913) >> 18', at an x up to 64 (a length in bits). The world is as it was. (LAID: no walk: one application.) -/
theorem Tryz.internal_strconv_log10Pow2 (x : Nat) (h : x ≤ 64) (w : World) :
    Calls Tryz.prog 125 #[.int .i64 x] w fun e w' => e = .returned (.int .i64 (Lib.l10 x)) ∧ w' = w := Any.internal_strconv_log10Pow2 Tryz.lays317 x h w
def Tryz.lays318_ren : Go.Shelf.Ren := ⟨fun | 318 => 127 | n => n, fun | 3 => 3 | 4 => 4 | n => n, fun | n => n⟩
theorem Tryz.lays318 : Go.Proofs.Lays.n318 Tryz.prog Tryz.lays318_ren := {
  mixed := by kernel_rfl
  f318 := Tryz.func127.trans (congrArg some (by kernel_rfl))
  t3 := Tryz.underlying3
  a3 := Tryz.isAgg3
  z3 := Tryz.sizeOf3
  v3 := Tryz.zeroValue3
  t4 := Tryz.underlying4
  a4 := Tryz.isAgg4
  z4 := Tryz.sizeOf4
  v4 := Tryz.zeroValue4 }
open Go.Lib in
/-- internal/strconv.bool2: "bool2 converts b to an integer: 1 for true, 0 for false." The world is as it was. (LAID: no walk: one application.) -/
theorem Tryz.internal_strconv_bool2_int (b : Bool) (w : World) :
    Calls Tryz.prog 127 #[.bool b] w fun e w' => e = .returned (.int .i64 (if b then 1 else 0)) ∧ w' = w := Any.internal_strconv_bool2_int Tryz.lays318 b w
def Tryz.lays283_ren : Go.Shelf.Ren := ⟨fun | 283 => 95 | n => n, fun | 3 => 3 | 9 => 9 | 4 => 4 | n => n, fun | n => n⟩
theorem Tryz.lays283 : Go.Proofs.Lays.n283 Tryz.prog Tryz.lays283_ren := {
  mixed := by kernel_rfl
  f283 := Tryz.func95.trans (congrArg some (by kernel_rfl))
  t3 := Tryz.underlying3
  a3 := Tryz.isAgg3
  z3 := Tryz.sizeOf3
  v3 := Tryz.zeroValue3
  t4 := Tryz.underlying4
  a4 := Tryz.isAgg4
  z4 := Tryz.sizeOf4
  v4 := Tryz.zeroValue4
  t9 := Tryz.underlying9
  a9 := Tryz.isAgg9
  z9 := Tryz.sizeOf9
  v9 := Tryz.zeroValue9 }
open Go.Lib in
/-- internal/strconv.small: "small returns the string for an i with 0 <= i < nSmalls.": i's decimal numeral. The world is as it was. (LAID: no walk: one application.) -/
theorem Tryz.internal_strconv_small (i : Nat) (h : i < 100) (w : World) :
    Calls Tryz.prog 95 #[.int .i64 i] w fun e w' => e = .returned (.string ⟨(Lib.decDigits i).toArray⟩) ∧ w' = w := Any.internal_strconv_small Tryz.lays283 i h w
def Tryz.laysM284_ren : Go.Shelf.Ren := ⟨fun | 284 => 96 | 129 => 126 | 317 => 125 | 318 => 127 | n => n, fun | 53 => 22 | 3 => 3 | 212 => 162 | 0 => 0 | 4 => 4 | 46 => 166 | 5 => 5 | 9 => 9 | n => n, fun | 17 => 1 | n => n⟩
theorem Tryz.laysM284 : Go.Proofs.LaysM.n284 Tryz.prog Tryz.laysM284_ren := {
  mixed := by kernel_rfl
  f129 := Tryz.func126.trans (congrArg some (by kernel_rfl))
  f284 := Tryz.func96.trans (congrArg some (by kernel_rfl))
  f317 := Tryz.func125.trans (congrArg some (by kernel_rfl))
  f318 := Tryz.func127.trans (congrArg some (by kernel_rfl))
  t0 := Tryz.underlying0
  a0 := Tryz.isAgg0
  z0 := Tryz.sizeOf0
  v0 := Tryz.zeroValue0
  t3 := Tryz.underlying3
  a3 := Tryz.isAgg3
  z3 := Tryz.sizeOf3
  v3 := Tryz.zeroValue3
  t4 := Tryz.underlying4
  a4 := Tryz.isAgg4
  z4 := Tryz.sizeOf4
  v4 := Tryz.zeroValue4
  t5 := Tryz.underlying5
  a5 := Tryz.isAgg5
  z5 := Tryz.sizeOf5
  v5 := Tryz.zeroValue5
  t9 := Tryz.underlying9
  a9 := Tryz.isAgg9
  z9 := Tryz.sizeOf9
  v9 := Tryz.zeroValue9
  t46 := Tryz.underlying166
  a46 := Tryz.isAgg166
  z46 := Tryz.sizeOf166
  v46 := Tryz.zeroValue166
  t53 := Tryz.underlying22
  a53 := Tryz.isAgg22
  z53 := Tryz.sizeOf22
  v53 := Tryz.zeroValue22
  t212 := Tryz.underlying162
  a212 := Tryz.isAgg162
  z212 := Tryz.sizeOf162
  v212 := Tryz.zeroValue162
  g17 := by kernel_rfl
  i0 := by kernel_rfl
  i3 := by kernel_rfl
  i4 := by kernel_rfl
  i5 := by kernel_rfl
  i9 := by kernel_rfl
  i46 := by kernel_rfl
  i53 := by kernel_rfl
  i212 := by kernel_rfl
  m17 := by kernel_rfl }
open Go.Lib in
/-- internal/strconv.numDigits, at a d that is not 0: THE NUMBER OF d's DECIMAL DIGITS. The world is as it was. (LAID: no walk: one application.) -/
theorem Tryz.internal_strconv_numDigits (u : Nat) (h1 : 1 ≤ u) (h2 : u < 18446744073709551616) (w : World) (htab : Lib.TabIs Tryz.prog w "internal/strconv.uint64pow10" .u64 Lib.pow10Tab) :
    Calls Tryz.prog 96 #[.int .u64 u] w fun e w' => e = .returned (.int .i64 (Lib.nDigits u)) ∧ w' = w := Any.internal_strconv_numDigits Tryz.laysM284 u h1 h2 w htab
def Tryz.lays285_ren : Go.Shelf.Ren := ⟨fun | 285 => 97 | n => n, fun | 37 => 66 | 53 => 22 | 3 => 3 | 4 => 4 | 51 => 163 | 9 => 9 | 5 => 5 | 0 => 0 | n => n, fun | n => n⟩
theorem Tryz.lays285 : Go.Proofs.Lays.n285 Tryz.prog Tryz.lays285_ren := {
  mixed := by kernel_rfl
  f285 := Tryz.func97.trans (congrArg some (by kernel_rfl))
  t0 := Tryz.underlying0
  a0 := Tryz.isAgg0
  z0 := Tryz.sizeOf0
  v0 := Tryz.zeroValue0
  t3 := Tryz.underlying3
  a3 := Tryz.isAgg3
  z3 := Tryz.sizeOf3
  v3 := Tryz.zeroValue3
  t4 := Tryz.underlying4
  a4 := Tryz.isAgg4
  z4 := Tryz.sizeOf4
  v4 := Tryz.zeroValue4
  t5 := Tryz.underlying5
  a5 := Tryz.isAgg5
  z5 := Tryz.sizeOf5
  v5 := Tryz.zeroValue5
  t9 := Tryz.underlying9
  a9 := Tryz.isAgg9
  z9 := Tryz.sizeOf9
  v9 := Tryz.zeroValue9
  t37 := Tryz.underlying66
  a37 := Tryz.isAgg66
  z37 := Tryz.sizeOf66
  v37 := Tryz.zeroValue66
  t51 := Tryz.underlying163
  a51 := Tryz.isAgg163
  z51 := Tryz.sizeOf163
  v51 := Tryz.zeroValue163
  t53 := Tryz.underlying22
  a53 := Tryz.isAgg22
  z53 := Tryz.sizeOf22
  v53 := Tryz.zeroValue22 }
open Go.RowKit Go.Sort Go.Lib in
/-- internal/strconv.formatBase10: "formatBase10 formats the decimal representation of u into a. The caller is responsible for ensuring that a is big enough to hold u. If a is too big, leading zeros will be filled in as needed.": THE ROW HOLDS u's DIGITS ('FmtInv .. 0 ..': every place t holds 'dg u (len - 1 - t)'); all else is as it was but for the count of draws. (LAID: no walk: one application.) -/
theorem Tryz.internal_strconv_formatBase10 (blk off cap : Nat) (u : Nat) (d : Array UInt8) (w : World) (hH : Holds (fun (b : UInt8) => Value.int .u8 (b.toNat : Int)) w blk off d) (hu : u < 10 ^ d.size) (hu64 : u < 18446744073709551616) (hsz : d.size < 4611686018427387904) :
    Calls Tryz.prog 97 #[.slice (some ⟨blk, off, none⟩) d.size cap, .int .u64 u] w fun e w' =>
      e = .returned (.tuple #[]) ∧ ∃ (n v' : Nat) (dk : Array UInt8), w' = (putRow (fun (b : UInt8) => Value.int .u8 (b.toNat : Int)) w blk off dk).drewN n ∧ FmtInv d.size u 0 v' dk := Any.internal_strconv_formatBase10 Tryz.lays285 blk off cap u d w hH hu hu64 hsz
def Tryz.laysM246_ren : Go.Shelf.Ren := ⟨fun | 246 => 57 | 283 => 95 | 284 => 96 | 285 => 97 | 286 => 98 | 129 => 126 | 317 => 125 | 318 => 127 | 319 => 128 | 320 => 129 | 337 => 160 | 338 => 161 | n => n, fun | 2 => 2 | 3 => 3 | 9 => 9 | 4 => 4 | 171 => 132 | 0 => 0 | 53 => 22 | 37 => 66 | 5 => 5 | 173 => 135 | 212 => 162 | 51 => 163 | 20 => 20 | 213 => 164 | 46 => 166 | 232 => 183 | 233 => 223 | n => n, fun | 17 => 1 | 18 => 6 | 19 => 7 | n => n⟩
theorem Tryz.laysM246 : Go.Proofs.LaysM.n246 Tryz.prog Tryz.laysM246_ren := {
  mixed := by kernel_rfl
  f129 := Tryz.func126.trans (congrArg some (by kernel_rfl))
  f246 := Tryz.func57.trans (congrArg some (by kernel_rfl))
  f283 := Tryz.func95.trans (congrArg some (by kernel_rfl))
  f284 := Tryz.func96.trans (congrArg some (by kernel_rfl))
  f285 := Tryz.func97.trans (congrArg some (by kernel_rfl))
  f286 := Tryz.func98.trans (congrArg some (by kernel_rfl))
  f317 := Tryz.func125.trans (congrArg some (by kernel_rfl))
  f318 := Tryz.func127.trans (congrArg some (by kernel_rfl))
  f319 := Tryz.func128.trans (congrArg some (by kernel_rfl))
  f320 := Tryz.func129.trans (congrArg some (by kernel_rfl))
  f337 := Tryz.func160.trans (congrArg some (by kernel_rfl))
  f338 := Tryz.func161.trans (congrArg some (by kernel_rfl))
  t0 := Tryz.underlying0
  a0 := Tryz.isAgg0
  z0 := Tryz.sizeOf0
  v0 := Tryz.zeroValue0
  t2 := Tryz.underlying2
  a2 := Tryz.isAgg2
  z2 := Tryz.sizeOf2
  v2 := Tryz.zeroValue2
  t3 := Tryz.underlying3
  a3 := Tryz.isAgg3
  z3 := Tryz.sizeOf3
  v3 := Tryz.zeroValue3
  t4 := Tryz.underlying4
  a4 := Tryz.isAgg4
  z4 := Tryz.sizeOf4
  v4 := Tryz.zeroValue4
  t5 := Tryz.underlying5
  a5 := Tryz.isAgg5
  z5 := Tryz.sizeOf5
  v5 := Tryz.zeroValue5
  t9 := Tryz.underlying9
  a9 := Tryz.isAgg9
  z9 := Tryz.sizeOf9
  v9 := Tryz.zeroValue9
  t20 := Tryz.underlying20
  a20 := Tryz.isAgg20
  z20 := Tryz.sizeOf20
  v20 := Tryz.zeroValue20
  t37 := Tryz.underlying66
  a37 := Tryz.isAgg66
  z37 := Tryz.sizeOf66
  v37 := Tryz.zeroValue66
  t46 := Tryz.underlying166
  a46 := Tryz.isAgg166
  z46 := Tryz.sizeOf166
  v46 := Tryz.zeroValue166
  t51 := Tryz.underlying163
  a51 := Tryz.isAgg163
  z51 := Tryz.sizeOf163
  v51 := Tryz.zeroValue163
  t53 := Tryz.underlying22
  a53 := Tryz.isAgg22
  z53 := Tryz.sizeOf22
  v53 := Tryz.zeroValue22
  t171 := Tryz.underlying132
  a171 := Tryz.isAgg132
  z171 := Tryz.sizeOf132
  v171 := Tryz.zeroValue132
  t173 := Tryz.underlying135
  a173 := Tryz.isAgg135
  z173 := Tryz.sizeOf135
  v173 := Tryz.zeroValue135
  t212 := Tryz.underlying162
  a212 := Tryz.isAgg162
  z212 := Tryz.sizeOf162
  v212 := Tryz.zeroValue162
  t213 := Tryz.underlying164
  a213 := Tryz.isAgg164
  z213 := Tryz.sizeOf164
  t232 := Tryz.underlying183
  a232 := Tryz.isAgg183
  z232 := Tryz.sizeOf183
  v232 := Tryz.zeroValue183
  t233 := Tryz.underlying223
  a233 := Tryz.isAgg223
  z233 := Tryz.sizeOf223
  v233 := Tryz.zeroValue223
  g17 := by kernel_rfl
  g18 := by kernel_rfl
  g19 := by kernel_rfl
  i0 := by kernel_rfl
  i2 := by kernel_rfl
  i3 := by kernel_rfl
  i4 := by kernel_rfl
  i5 := by kernel_rfl
  i9 := by kernel_rfl
  i20 := by kernel_rfl
  i37 := by kernel_rfl
  i46 := by kernel_rfl
  i51 := by kernel_rfl
  i53 := by kernel_rfl
  i171 := by kernel_rfl
  i173 := by kernel_rfl
  i212 := by kernel_rfl
  i232 := by kernel_rfl
  i233 := by kernel_rfl
  m17 := by kernel_rfl
  m18 := by kernel_rfl
  m19 := by kernel_rfl }
open Go.RowKit Go.Sort Go.Lib in
/-- internal/strconv.FormatInt: "FormatInt returns the string representation of i in the given base": AT BASE 10: i's decimal numeral, for every int64. The world behind the call: the world before it, new blocks behind the heap, draws. (LAID: no walk: one application.) -/
theorem Tryz.internal_strconv_FormatInt_10 (n : Int) (h0 : -9223372036854775808 ≤ n) (h1 : n ≤ 9223372036854775807) (w : World) (htab : Lib.TabIs Tryz.prog w "internal/strconv.uint64pow10" .u64 Lib.pow10Tab) :
    Calls Tryz.prog 57 #[.int .i64 n, .int .i64 10] w fun e w' => e = .returned (.string ⟨(Lib.itoa n).toArray⟩) ∧ ∃ k os, w' = grow (w.drewN k) os := Any.internal_strconv_FormatInt_10 Tryz.laysM246 n h0 h1 w htab
def Tryz.lays246_ren : Go.Shelf.Ren := ⟨fun | 246 => 57 | 283 => 95 | 284 => 96 | 285 => 97 | 286 => 98 | 129 => 126 | 317 => 125 | 318 => 127 | 319 => 128 | 320 => 129 | 337 => 160 | 338 => 161 | n => n, fun | 2 => 2 | 3 => 3 | 9 => 9 | 4 => 4 | 171 => 132 | 0 => 0 | 53 => 22 | 37 => 66 | 5 => 5 | 173 => 135 | 212 => 162 | 51 => 163 | 20 => 20 | 213 => 164 | 46 => 166 | 232 => 183 | 233 => 223 | n => n, fun | 17 => 1 | 18 => 6 | 19 => 7 | n => n⟩
theorem Tryz.lays246 : Go.Proofs.Lays.n246 Tryz.prog Tryz.lays246_ren := {
  mixed := by kernel_rfl
  f129 := Tryz.func126.trans (congrArg some (by kernel_rfl))
  f246 := Tryz.func57.trans (congrArg some (by kernel_rfl))
  f283 := Tryz.func95.trans (congrArg some (by kernel_rfl))
  f284 := Tryz.func96.trans (congrArg some (by kernel_rfl))
  f285 := Tryz.func97.trans (congrArg some (by kernel_rfl))
  f286 := Tryz.func98.trans (congrArg some (by kernel_rfl))
  f317 := Tryz.func125.trans (congrArg some (by kernel_rfl))
  f318 := Tryz.func127.trans (congrArg some (by kernel_rfl))
  f319 := Tryz.func128.trans (congrArg some (by kernel_rfl))
  f320 := Tryz.func129.trans (congrArg some (by kernel_rfl))
  f337 := Tryz.func160.trans (congrArg some (by kernel_rfl))
  f338 := Tryz.func161.trans (congrArg some (by kernel_rfl))
  t0 := Tryz.underlying0
  a0 := Tryz.isAgg0
  z0 := Tryz.sizeOf0
  v0 := Tryz.zeroValue0
  t2 := Tryz.underlying2
  a2 := Tryz.isAgg2
  z2 := Tryz.sizeOf2
  v2 := Tryz.zeroValue2
  t3 := Tryz.underlying3
  a3 := Tryz.isAgg3
  z3 := Tryz.sizeOf3
  v3 := Tryz.zeroValue3
  t4 := Tryz.underlying4
  a4 := Tryz.isAgg4
  z4 := Tryz.sizeOf4
  v4 := Tryz.zeroValue4
  t5 := Tryz.underlying5
  a5 := Tryz.isAgg5
  z5 := Tryz.sizeOf5
  v5 := Tryz.zeroValue5
  t9 := Tryz.underlying9
  a9 := Tryz.isAgg9
  z9 := Tryz.sizeOf9
  v9 := Tryz.zeroValue9
  t20 := Tryz.underlying20
  a20 := Tryz.isAgg20
  z20 := Tryz.sizeOf20
  v20 := Tryz.zeroValue20
  t37 := Tryz.underlying66
  a37 := Tryz.isAgg66
  z37 := Tryz.sizeOf66
  v37 := Tryz.zeroValue66
  t46 := Tryz.underlying166
  a46 := Tryz.isAgg166
  z46 := Tryz.sizeOf166
  v46 := Tryz.zeroValue166
  t51 := Tryz.underlying163
  a51 := Tryz.isAgg163
  z51 := Tryz.sizeOf163
  v51 := Tryz.zeroValue163
  t53 := Tryz.underlying22
  a53 := Tryz.isAgg22
  z53 := Tryz.sizeOf22
  v53 := Tryz.zeroValue22
  t171 := Tryz.underlying132
  a171 := Tryz.isAgg132
  z171 := Tryz.sizeOf132
  v171 := Tryz.zeroValue132
  t173 := Tryz.underlying135
  a173 := Tryz.isAgg135
  z173 := Tryz.sizeOf135
  v173 := Tryz.zeroValue135
  t212 := Tryz.underlying162
  a212 := Tryz.isAgg162
  z212 := Tryz.sizeOf162
  v212 := Tryz.zeroValue162
  t213 := Tryz.underlying164
  a213 := Tryz.isAgg164
  z213 := Tryz.sizeOf164
  t232 := Tryz.underlying183
  a232 := Tryz.isAgg183
  z232 := Tryz.sizeOf183
  v232 := Tryz.zeroValue183
  t233 := Tryz.underlying223
  a233 := Tryz.isAgg223
  z233 := Tryz.sizeOf223
  v233 := Tryz.zeroValue223
  g17 := by kernel_rfl
  g18 := by kernel_rfl
  g19 := by kernel_rfl }
open Go.RowKit Go.Sort Go.Lib in
/-- THE ROAD WITHOUT THE TABLE: 0 <= i < 100: two constants are read, nothing is laid: no premise on the world, and the world is as it was. (LAID: no walk: one application.) -/
theorem Tryz.internal_strconv_FormatInt_10_small (i : Nat) (hi : i < 100) (w : World) :
    Calls Tryz.prog 57 #[.int .i64 i, .int .i64 10] w fun e w' => e = .returned (.string ⟨(Lib.decDigits i).toArray⟩) ∧ w' = w := Any.internal_strconv_FormatInt_10_small Tryz.lays246 i hi w
def Tryz.laysM173_ren : Go.Shelf.Ren := ⟨fun | 173 => 32 | 246 => 57 | 283 => 95 | 284 => 96 | 285 => 97 | 286 => 98 | 129 => 126 | 317 => 125 | 318 => 127 | 319 => 128 | 320 => 129 | 337 => 160 | 338 => 161 | n => n, fun | 2 => 2 | 3 => 3 | 9 => 9 | 4 => 4 | 171 => 132 | 0 => 0 | 53 => 22 | 37 => 66 | 5 => 5 | 173 => 135 | 212 => 162 | 51 => 163 | 20 => 20 | 213 => 164 | 46 => 166 | 232 => 183 | 233 => 223 | n => n, fun | 17 => 1 | 18 => 6 | 19 => 7 | n => n⟩
theorem Tryz.laysM173 : Go.Proofs.LaysM.n173 Tryz.prog Tryz.laysM173_ren := {
  mixed := by kernel_rfl
  f129 := Tryz.func126.trans (congrArg some (by kernel_rfl))
  f173 := Tryz.func32.trans (congrArg some (by kernel_rfl))
  f246 := Tryz.func57.trans (congrArg some (by kernel_rfl))
  f283 := Tryz.func95.trans (congrArg some (by kernel_rfl))
  f284 := Tryz.func96.trans (congrArg some (by kernel_rfl))
  f285 := Tryz.func97.trans (congrArg some (by kernel_rfl))
  f286 := Tryz.func98.trans (congrArg some (by kernel_rfl))
  f317 := Tryz.func125.trans (congrArg some (by kernel_rfl))
  f318 := Tryz.func127.trans (congrArg some (by kernel_rfl))
  f319 := Tryz.func128.trans (congrArg some (by kernel_rfl))
  f320 := Tryz.func129.trans (congrArg some (by kernel_rfl))
  f337 := Tryz.func160.trans (congrArg some (by kernel_rfl))
  f338 := Tryz.func161.trans (congrArg some (by kernel_rfl))
  t0 := Tryz.underlying0
  a0 := Tryz.isAgg0
  z0 := Tryz.sizeOf0
  v0 := Tryz.zeroValue0
  t2 := Tryz.underlying2
  a2 := Tryz.isAgg2
  z2 := Tryz.sizeOf2
  v2 := Tryz.zeroValue2
  t3 := Tryz.underlying3
  a3 := Tryz.isAgg3
  z3 := Tryz.sizeOf3
  v3 := Tryz.zeroValue3
  t4 := Tryz.underlying4
  a4 := Tryz.isAgg4
  z4 := Tryz.sizeOf4
  v4 := Tryz.zeroValue4
  t5 := Tryz.underlying5
  a5 := Tryz.isAgg5
  z5 := Tryz.sizeOf5
  v5 := Tryz.zeroValue5
  t9 := Tryz.underlying9
  a9 := Tryz.isAgg9
  z9 := Tryz.sizeOf9
  v9 := Tryz.zeroValue9
  t20 := Tryz.underlying20
  a20 := Tryz.isAgg20
  z20 := Tryz.sizeOf20
  v20 := Tryz.zeroValue20
  t37 := Tryz.underlying66
  a37 := Tryz.isAgg66
  z37 := Tryz.sizeOf66
  v37 := Tryz.zeroValue66
  t46 := Tryz.underlying166
  a46 := Tryz.isAgg166
  z46 := Tryz.sizeOf166
  v46 := Tryz.zeroValue166
  t51 := Tryz.underlying163
  a51 := Tryz.isAgg163
  z51 := Tryz.sizeOf163
  v51 := Tryz.zeroValue163
  t53 := Tryz.underlying22
  a53 := Tryz.isAgg22
  z53 := Tryz.sizeOf22
  v53 := Tryz.zeroValue22
  t171 := Tryz.underlying132
  a171 := Tryz.isAgg132
  z171 := Tryz.sizeOf132
  v171 := Tryz.zeroValue132
  t173 := Tryz.underlying135
  a173 := Tryz.isAgg135
  z173 := Tryz.sizeOf135
  v173 := Tryz.zeroValue135
  t212 := Tryz.underlying162
  a212 := Tryz.isAgg162
  z212 := Tryz.sizeOf162
  v212 := Tryz.zeroValue162
  t213 := Tryz.underlying164
  a213 := Tryz.isAgg164
  z213 := Tryz.sizeOf164
  t232 := Tryz.underlying183
  a232 := Tryz.isAgg183
  z232 := Tryz.sizeOf183
  v232 := Tryz.zeroValue183
  t233 := Tryz.underlying223
  a233 := Tryz.isAgg223
  z233 := Tryz.sizeOf223
  v233 := Tryz.zeroValue223
  g17 := by kernel_rfl
  g18 := by kernel_rfl
  g19 := by kernel_rfl
  i0 := by kernel_rfl
  i2 := by kernel_rfl
  i3 := by kernel_rfl
  i4 := by kernel_rfl
  i5 := by kernel_rfl
  i9 := by kernel_rfl
  i20 := by kernel_rfl
  i37 := by kernel_rfl
  i46 := by kernel_rfl
  i51 := by kernel_rfl
  i53 := by kernel_rfl
  i171 := by kernel_rfl
  i173 := by kernel_rfl
  i212 := by kernel_rfl
  i232 := by kernel_rfl
  i233 := by kernel_rfl
  m17 := by kernel_rfl
  m18 := by kernel_rfl
  m19 := by kernel_rfl }
open Go.RowKit Go.Sort Go.Lib in
/-- strconv.FormatInt: "FormatInt returns the string representation of i in the given base": AT BASE 10: i's decimal numeral, for every int64. (LAID: no walk: one application.) -/
theorem Tryz.strconv_FormatInt_10 (n : Int) (h0 : -9223372036854775808 ≤ n) (h1 : n ≤ 9223372036854775807) (w : World) (htab : Lib.TabIs Tryz.prog w "internal/strconv.uint64pow10" .u64 Lib.pow10Tab) :
    Calls Tryz.prog 32 #[.int .i64 n, .int .i64 10] w fun e w' => e = .returned (.string ⟨(Lib.itoa n).toArray⟩) ∧ ∃ k os, w' = grow (w.drewN k) os := Any.strconv_FormatInt_10 Tryz.laysM173 n h0 h1 w htab
def Tryz.lays173_ren : Go.Shelf.Ren := ⟨fun | 173 => 32 | 246 => 57 | 283 => 95 | 284 => 96 | 285 => 97 | 286 => 98 | 129 => 126 | 317 => 125 | 318 => 127 | 319 => 128 | 320 => 129 | 337 => 160 | 338 => 161 | n => n, fun | 2 => 2 | 3 => 3 | 9 => 9 | 4 => 4 | 171 => 132 | 0 => 0 | 53 => 22 | 37 => 66 | 5 => 5 | 173 => 135 | 212 => 162 | 51 => 163 | 20 => 20 | 213 => 164 | 46 => 166 | 232 => 183 | 233 => 223 | n => n, fun | 17 => 1 | 18 => 6 | 19 => 7 | n => n⟩
theorem Tryz.lays173 : Go.Proofs.Lays.n173 Tryz.prog Tryz.lays173_ren := {
  mixed := by kernel_rfl
  f129 := Tryz.func126.trans (congrArg some (by kernel_rfl))
  f173 := Tryz.func32.trans (congrArg some (by kernel_rfl))
  f246 := Tryz.func57.trans (congrArg some (by kernel_rfl))
  f283 := Tryz.func95.trans (congrArg some (by kernel_rfl))
  f284 := Tryz.func96.trans (congrArg some (by kernel_rfl))
  f285 := Tryz.func97.trans (congrArg some (by kernel_rfl))
  f286 := Tryz.func98.trans (congrArg some (by kernel_rfl))
  f317 := Tryz.func125.trans (congrArg some (by kernel_rfl))
  f318 := Tryz.func127.trans (congrArg some (by kernel_rfl))
  f319 := Tryz.func128.trans (congrArg some (by kernel_rfl))
  f320 := Tryz.func129.trans (congrArg some (by kernel_rfl))
  f337 := Tryz.func160.trans (congrArg some (by kernel_rfl))
  f338 := Tryz.func161.trans (congrArg some (by kernel_rfl))
  t0 := Tryz.underlying0
  a0 := Tryz.isAgg0
  z0 := Tryz.sizeOf0
  v0 := Tryz.zeroValue0
  t2 := Tryz.underlying2
  a2 := Tryz.isAgg2
  z2 := Tryz.sizeOf2
  v2 := Tryz.zeroValue2
  t3 := Tryz.underlying3
  a3 := Tryz.isAgg3
  z3 := Tryz.sizeOf3
  v3 := Tryz.zeroValue3
  t4 := Tryz.underlying4
  a4 := Tryz.isAgg4
  z4 := Tryz.sizeOf4
  v4 := Tryz.zeroValue4
  t5 := Tryz.underlying5
  a5 := Tryz.isAgg5
  z5 := Tryz.sizeOf5
  v5 := Tryz.zeroValue5
  t9 := Tryz.underlying9
  a9 := Tryz.isAgg9
  z9 := Tryz.sizeOf9
  v9 := Tryz.zeroValue9
  t20 := Tryz.underlying20
  a20 := Tryz.isAgg20
  z20 := Tryz.sizeOf20
  v20 := Tryz.zeroValue20
  t37 := Tryz.underlying66
  a37 := Tryz.isAgg66
  z37 := Tryz.sizeOf66
  v37 := Tryz.zeroValue66
  t46 := Tryz.underlying166
  a46 := Tryz.isAgg166
  z46 := Tryz.sizeOf166
  v46 := Tryz.zeroValue166
  t51 := Tryz.underlying163
  a51 := Tryz.isAgg163
  z51 := Tryz.sizeOf163
  v51 := Tryz.zeroValue163
  t53 := Tryz.underlying22
  a53 := Tryz.isAgg22
  z53 := Tryz.sizeOf22
  v53 := Tryz.zeroValue22
  t171 := Tryz.underlying132
  a171 := Tryz.isAgg132
  z171 := Tryz.sizeOf132
  v171 := Tryz.zeroValue132
  t173 := Tryz.underlying135
  a173 := Tryz.isAgg135
  z173 := Tryz.sizeOf135
  v173 := Tryz.zeroValue135
  t212 := Tryz.underlying162
  a212 := Tryz.isAgg162
  z212 := Tryz.sizeOf162
  v212 := Tryz.zeroValue162
  t213 := Tryz.underlying164
  a213 := Tryz.isAgg164
  z213 := Tryz.sizeOf164
  t232 := Tryz.underlying183
  a232 := Tryz.isAgg183
  z232 := Tryz.sizeOf183
  v232 := Tryz.zeroValue183
  t233 := Tryz.underlying223
  a233 := Tryz.isAgg223
  z233 := Tryz.sizeOf223
  v233 := Tryz.zeroValue223
  g17 := by kernel_rfl
  g18 := by kernel_rfl
  g19 := by kernel_rfl }
open Go.RowKit Go.Sort Go.Lib in
/-- THE ROAD WITHOUT THE TABLE: 0 <= i < 100. (LAID: no walk: one application.) -/
theorem Tryz.strconv_FormatInt_10_small (i : Nat) (hi : i < 100) (w : World) :
    Calls Tryz.prog 32 #[.int .i64 i, .int .i64 10] w fun e w' => e = .returned (.string ⟨(Lib.decDigits i).toArray⟩) ∧ w' = w := Any.strconv_FormatInt_10_small Tryz.lays173 i hi w
def Tryz.laysM288_ren : Go.Shelf.Ren := ⟨fun | 288 => 107 | 283 => 95 | 284 => 96 | 285 => 97 | 286 => 98 | 129 => 126 | 317 => 125 | 318 => 127 | 319 => 128 | 320 => 129 | 337 => 160 | 338 => 161 | n => n, fun | 37 => 66 | 53 => 22 | 3 => 3 | 4 => 4 | 9 => 9 | 171 => 132 | 0 => 0 | 173 => 135 | 212 => 162 | 51 => 163 | 5 => 5 | 20 => 20 | 213 => 164 | 46 => 166 | 232 => 183 | 233 => 223 | n => n, fun | 17 => 1 | 18 => 6 | 19 => 7 | n => n⟩
theorem Tryz.laysM288 : Go.Proofs.LaysM.n288 Tryz.prog Tryz.laysM288_ren := {
  mixed := by kernel_rfl
  f129 := Tryz.func126.trans (congrArg some (by kernel_rfl))
  f283 := Tryz.func95.trans (congrArg some (by kernel_rfl))
  f284 := Tryz.func96.trans (congrArg some (by kernel_rfl))
  f285 := Tryz.func97.trans (congrArg some (by kernel_rfl))
  f286 := Tryz.func98.trans (congrArg some (by kernel_rfl))
  f288 := Tryz.func107.trans (congrArg some (by kernel_rfl))
  f317 := Tryz.func125.trans (congrArg some (by kernel_rfl))
  f318 := Tryz.func127.trans (congrArg some (by kernel_rfl))
  f319 := Tryz.func128.trans (congrArg some (by kernel_rfl))
  f320 := Tryz.func129.trans (congrArg some (by kernel_rfl))
  f337 := Tryz.func160.trans (congrArg some (by kernel_rfl))
  f338 := Tryz.func161.trans (congrArg some (by kernel_rfl))
  t0 := Tryz.underlying0
  a0 := Tryz.isAgg0
  z0 := Tryz.sizeOf0
  v0 := Tryz.zeroValue0
  t3 := Tryz.underlying3
  a3 := Tryz.isAgg3
  z3 := Tryz.sizeOf3
  v3 := Tryz.zeroValue3
  t4 := Tryz.underlying4
  a4 := Tryz.isAgg4
  z4 := Tryz.sizeOf4
  v4 := Tryz.zeroValue4
  t5 := Tryz.underlying5
  a5 := Tryz.isAgg5
  z5 := Tryz.sizeOf5
  v5 := Tryz.zeroValue5
  t9 := Tryz.underlying9
  a9 := Tryz.isAgg9
  z9 := Tryz.sizeOf9
  v9 := Tryz.zeroValue9
  t20 := Tryz.underlying20
  a20 := Tryz.isAgg20
  z20 := Tryz.sizeOf20
  v20 := Tryz.zeroValue20
  t37 := Tryz.underlying66
  a37 := Tryz.isAgg66
  z37 := Tryz.sizeOf66
  v37 := Tryz.zeroValue66
  t46 := Tryz.underlying166
  a46 := Tryz.isAgg166
  z46 := Tryz.sizeOf166
  v46 := Tryz.zeroValue166
  t51 := Tryz.underlying163
  a51 := Tryz.isAgg163
  z51 := Tryz.sizeOf163
  v51 := Tryz.zeroValue163
  t53 := Tryz.underlying22
  a53 := Tryz.isAgg22
  z53 := Tryz.sizeOf22
  v53 := Tryz.zeroValue22
  t171 := Tryz.underlying132
  a171 := Tryz.isAgg132
  z171 := Tryz.sizeOf132
  v171 := Tryz.zeroValue132
  t173 := Tryz.underlying135
  a173 := Tryz.isAgg135
  z173 := Tryz.sizeOf135
  v173 := Tryz.zeroValue135
  t212 := Tryz.underlying162
  a212 := Tryz.isAgg162
  z212 := Tryz.sizeOf162
  v212 := Tryz.zeroValue162
  t213 := Tryz.underlying164
  a213 := Tryz.isAgg164
  z213 := Tryz.sizeOf164
  t232 := Tryz.underlying183
  a232 := Tryz.isAgg183
  z232 := Tryz.sizeOf183
  v232 := Tryz.zeroValue183
  t233 := Tryz.underlying223
  a233 := Tryz.isAgg223
  z233 := Tryz.sizeOf223
  v233 := Tryz.zeroValue223
  g17 := by kernel_rfl
  g18 := by kernel_rfl
  g19 := by kernel_rfl
  i0 := by kernel_rfl
  i3 := by kernel_rfl
  i4 := by kernel_rfl
  i5 := by kernel_rfl
  i9 := by kernel_rfl
  i20 := by kernel_rfl
  i37 := by kernel_rfl
  i46 := by kernel_rfl
  i51 := by kernel_rfl
  i53 := by kernel_rfl
  i171 := by kernel_rfl
  i173 := by kernel_rfl
  i212 := by kernel_rfl
  i232 := by kernel_rfl
  i233 := by kernel_rfl
  m17 := by kernel_rfl
  m18 := by kernel_rfl
  m19 := by kernel_rfl }
open Go.RowKit Go.Sort Go.Lib in
/-- internal/strconv.AppendUint(dst, i, 10), i BELOW 100: WHAT COMES BACK OWNS dst's CELLS AND, BEHIND THEM, i's DECIMAL NUMERAL. No table is read. Below the call's own blocks nothing has turned. (LAID: no walk: one application.) -/
theorem Tryz.internal_strconv_AppendUint_10_small (B n u : Nat) (hu : u < 100) (sv : Value) (xs : List Value) (w : World) (hown : w.ownsRow B 5 1 sv n xs) (hBw : B ≤ w.heap.size) (hlim : n + 20 ≤ 140737488355328) :
    Calls Tryz.prog 107 #[sv, .int .u64 u, .int .i64 10] w fun e w' => ∃ v', e = .returned v' ∧ w'.ownsRow B 5 1 v' (n + (Lib.decDigits u).length) (xs ++ Lib.byteCells (Lib.decDigits u)) ∧ Below B w w' ∧ Lib.OthersKept 5 none w w' := Any.internal_strconv_AppendUint_10_small Tryz.laysM288 B n u hu sv xs w hown hBw hlim
open Go.RowKit Go.Sort Go.Lib in
/-- internal/strconv.AppendUint(dst, i, 10), i FROM 100 ON: likewise; the digits are laid in an array of the call's own and appended. (LAID: no walk: one application.) -/
theorem Tryz.internal_strconv_AppendUint_10_big (B n u : Nat) (hu : 100 ≤ u) (hu64 : u < 18446744073709551616) (sv : Value) (xs : List Value) (w : World) (hown : w.ownsRow B 5 1 sv n xs) (hBw : B ≤ w.heap.size) (hlim : n + 20 ≤ 140737488355328) (htab : Lib.TabIs Tryz.prog w "internal/strconv.uint64pow10" .u64 Lib.pow10Tab) :
    Calls Tryz.prog 107 #[sv, .int .u64 u, .int .i64 10] w fun e w' => ∃ v', e = .returned v' ∧ w'.ownsRow B 5 1 v' (n + (Lib.decDigits u).length) (xs ++ Lib.byteCells (Lib.decDigits u)) ∧ Below B w w' ∧ Lib.OthersKept 5 none w w' := Any.internal_strconv_AppendUint_10_big Tryz.laysM288 B n u hu hu64 sv xs w hown hBw hlim htab
def Tryz.lays206_ren : Go.Shelf.Ren := ⟨fun | 206 => 185 | n => n, fun | 9 => 9 | 4 => 4 | 3 => 3 | n => n, fun | n => n⟩
theorem Tryz.lays206 : Go.Proofs.Lays.n206 Tryz.prog Tryz.lays206_ren := {
  mixed := by kernel_rfl
  f206 := Tryz.func185.trans (congrArg some (by kernel_rfl))
  t3 := Tryz.underlying3
  a3 := Tryz.isAgg3
  z3 := Tryz.sizeOf3
  v3 := Tryz.zeroValue3
  t4 := Tryz.underlying4
  a4 := Tryz.isAgg4
  z4 := Tryz.sizeOf4
  v4 := Tryz.zeroValue4
  t9 := Tryz.underlying9
  a9 := Tryz.isAgg9
  z9 := Tryz.sizeOf9
  v9 := Tryz.zeroValue9 }
open Go.RowKit Go.Lib in
/-- internal/stringslite.HasPrefix (what strings.HasPrefix calls). (LAID: no walk: one application.) -/
theorem Tryz.stringslite_HasPrefix (s p : ByteArray) (w : World) :
    Calls Tryz.prog 185 #[.string s, .string p] w fun e w' => e = .returned (.bool (Lib.hasPrefix s.data.toList p.data.toList)) ∧ w' = w := Any.stringslite_HasPrefix Tryz.lays206 s p w
def Tryz.lays208_ren : Go.Shelf.Ren := ⟨fun | 208 => 163 | 206 => 185 | n => n, fun | 9 => 9 | 4 => 4 | 3 => 3 | n => n, fun | n => n⟩
theorem Tryz.lays208 : Go.Proofs.Lays.n208 Tryz.prog Tryz.lays208_ren := {
  mixed := by kernel_rfl
  f206 := Tryz.func185.trans (congrArg some (by kernel_rfl))
  f208 := Tryz.func163.trans (congrArg some (by kernel_rfl))
  t3 := Tryz.underlying3
  a3 := Tryz.isAgg3
  z3 := Tryz.sizeOf3
  v3 := Tryz.zeroValue3
  t4 := Tryz.underlying4
  a4 := Tryz.isAgg4
  z4 := Tryz.sizeOf4
  v4 := Tryz.zeroValue4
  t9 := Tryz.underlying9
  a9 := Tryz.isAgg9
  z9 := Tryz.sizeOf9
  v9 := Tryz.zeroValue9 }
open Go.RowKit Go.Lib in
/-- internal/stringslite.TrimPrefix (what strings.TrimPrefix calls). (LAID: no walk: one application.) -/
theorem Tryz.stringslite_TrimPrefix (s p : ByteArray) (w : World) :
    Calls Tryz.prog 163 #[.string s, .string p] w fun e w' => e = .returned (.string ⟨(Lib.trimPrefix s.data.toList p.data.toList).toArray⟩) ∧ w' = w := Any.stringslite_TrimPrefix Tryz.lays208 s p w
def Tryz.lays101_ren : Go.Shelf.Ren := ⟨fun | 101 => 133 | 208 => 163 | 206 => 185 | n => n, fun | 9 => 9 | 4 => 4 | 3 => 3 | n => n, fun | n => n⟩
theorem Tryz.lays101 : Go.Proofs.Lays.n101 Tryz.prog Tryz.lays101_ren := {
  mixed := by kernel_rfl
  f101 := Tryz.func133.trans (congrArg some (by kernel_rfl))
  f206 := Tryz.func185.trans (congrArg some (by kernel_rfl))
  f208 := Tryz.func163.trans (congrArg some (by kernel_rfl))
  t3 := Tryz.underlying3
  a3 := Tryz.isAgg3
  z3 := Tryz.sizeOf3
  v3 := Tryz.zeroValue3
  t4 := Tryz.underlying4
  a4 := Tryz.isAgg4
  z4 := Tryz.sizeOf4
  v4 := Tryz.zeroValue4
  t9 := Tryz.underlying9
  a9 := Tryz.isAgg9
  z9 := Tryz.sizeOf9
  v9 := Tryz.zeroValue9 }
open Go.RowKit Go.Lib in
/-- strings.TrimPrefix: "TrimPrefix returns s without the provided leading prefix string. If s doesn't start with prefix, s is returned unchanged.": IT RETURNS 'Lib.trimPrefix s prefix'; the world is as it was. (LAID: no walk: one application.) -/
theorem Tryz.strings_TrimPrefix (s p : ByteArray) (w : World) :
    Calls Tryz.prog 133 #[.string s, .string p] w fun e w' => e = .returned (.string ⟨(Lib.trimPrefix s.data.toList p.data.toList).toArray⟩) ∧ w' = w := Any.strings_TrimPrefix Tryz.lays101 s p w
def Tryz.lays264_ren : Go.Shelf.Ren := ⟨fun | 264 => 186 | n => n, fun | 53 => 22 | 46 => 166 | n => n, fun | n => n⟩
theorem Tryz.lays264 : Go.Proofs.Lays.n264 Tryz.prog Tryz.lays264_ren := {
  mixed := by kernel_rfl
  f264 := Tryz.func186.trans (congrArg some (by kernel_rfl))
  t46 := Tryz.underlying166
  a46 := Tryz.isAgg166
  z46 := Tryz.sizeOf166
  v46 := Tryz.zeroValue166
  t53 := Tryz.underlying22
  a53 := Tryz.isAgg22
  z53 := Tryz.sizeOf22
  v53 := Tryz.zeroValue22 }
open Go.RowKit Go.Lib in
theorem Tryz.bits_Mul64 (x y : Nat) (hx : x < 18446744073709551616) (hy : y < 18446744073709551616) (w : World) :
    Calls Tryz.prog 186 #[.int .u64 x, .int .u64 y] w fun e w' => e = .returned (.tuple #[.int .u64 ((x * y / 18446744073709551616 : Nat) : Int), .int .u64 ((x * y % 18446744073709551616 : Nat) : Int)]) ∧ w' = w := Any.bits_Mul64 Tryz.lays264 x y hx hy w
def Tryz.laysnb115_ren : Go.Shelf.Ren := ⟨fun | 115 => 64 | n => n, fun | 37 => 66 | 4 => 4 | 9 => 9 | 5 => 5 | n => n, fun | n => n⟩
theorem Tryz.laysnb115 : Go.Proofs.Lays.nb115 Tryz.prog Tryz.laysnb115_ren := {
  mixed := by kernel_rfl
  f115 := Tryz.func64.trans (congrArg some (by kernel_rfl))
  t4 := Tryz.underlying4
  a4 := Tryz.isAgg4
  z4 := Tryz.sizeOf4
  v4 := Tryz.zeroValue4
  t9 := Tryz.underlying9
  a9 := Tryz.isAgg9
  z9 := Tryz.sizeOf9
  v9 := Tryz.zeroValue9
  t37 := Tryz.underlying66
  a37 := Tryz.isAgg66
  z37 := Tryz.sizeOf66
  v37 := Tryz.zeroValue66
  t5 := Tryz.underlying5
  a5 := Tryz.isAgg5
  z5 := Tryz.sizeOf5
  v5 := Tryz.zeroValue5 }
/-- bytes.Equal: WHOLE. (LAID: no walk: one application.) -/
theorem Tryz.bytes_Equal_all (p1 p2 : Option Addr) (n c m d : Nat) (xs ys : List Int) (w : World) (hx : xs.length = n) (hy : ys.length = m) (h1 : Lib.BytesIn w p1 n xs) (h2 : Lib.BytesIn w p2 m ys) :
    Calls Tryz.prog 64 #[.slice p1 n c, .slice p2 m d] w fun e w' => e = .returned (.bool (Lib.bytesOf xs == Lib.bytesOf ys)) ∧ w' = w := Any.bytes_Equal_all Tryz.laysnb115 p1 p2 n c m d xs ys w hx hy h1 h2
def Tryz.lays115_ren : Go.Shelf.Ren := ⟨fun | 115 => 64 | n => n, fun | 37 => 66 | 4 => 4 | 9 => 9 | 5 => 5 | n => n, fun | n => n⟩
theorem Tryz.lays115 : Go.Proofs.Lays.n115 Tryz.prog Tryz.lays115_ren := {
  mixed := by kernel_rfl
  f115 := Tryz.func64.trans (congrArg some (by kernel_rfl))
  t4 := Tryz.underlying4
  a4 := Tryz.isAgg4
  z4 := Tryz.sizeOf4
  v4 := Tryz.zeroValue4
  t9 := Tryz.underlying9
  a9 := Tryz.isAgg9
  z9 := Tryz.sizeOf9
  v9 := Tryz.zeroValue9
  t37 := Tryz.underlying66
  a37 := Tryz.isAgg66
  z37 := Tryz.sizeOf66
  v37 := Tryz.zeroValue66 }
/-- bytes.Equal: "Equal reports whether a and b are the same length and contain the same bytes. A nil argument is equivalent to an empty slice.": IT RETURNS 'the bytes of the one == the bytes of the other'; the world is as it was. THE TWO ARGUMENTS COME AS WHATEVER VALUES, each with the one fact that the walk wants of it: what 'string(..)' of it gives: for a slice whose cells you know: 'run_convert_bytes_arg' (Derived/Laws/BytesArg.lean) hands that fact; for a nil one: 'run_convert_bytes_nil' (with xs := []). (LAID: no walk: one application.) -/
theorem Tryz.bytes_Equal (v1 v2 : Value) (xs ys : List Int) (w : World) (h1 : (convert 66 9 v1).run Tryz.prog w = .ok (.string (strOfNums xs)) w) (h2 : (convert 66 9 v2).run Tryz.prog w = .ok (.string (strOfNums ys)) w) :
    Calls Tryz.prog 64 #[v1, v2] w fun e w' => e = .returned (.bool (Lib.bytesOf xs == Lib.bytesOf ys)) ∧ w' = w := Any.bytes_Equal Tryz.lays115 v1 v2 xs ys w h1 h2
end Go.Proofs
