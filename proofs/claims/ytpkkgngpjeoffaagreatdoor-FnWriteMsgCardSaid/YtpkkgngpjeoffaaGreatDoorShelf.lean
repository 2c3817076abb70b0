/-
  DERIVED: THE SHELF's CONTRACTS AT THIS DUMP, IN PLAIN WORDS (tools/lay-plain.mjs out of 'TryzShelf.lean', which tools/lay-shelf.mjs wrote): THE SAME DECLARATIONS UNDER THE SAME YtpkkgngpjeoffaaGreatDoorS: 'import', 'namespace', 'open', 'def', 'theorem' AND NOTHING ELSE: no command of the shelf's: FOR A HAND-IN. Each laying: the table of numbers ('.._ren') and one theorem, a field a fact of the dump's own or the kernel's comparison; each contract: ONE APPLICATION.
-/
import Derived.Shelf.Small.Utf8
import Derived.Shelf.Strconv.Itoa0
import Derived.Shelf.Strconv.Itoa1
import Derived.Shelf.LaysM
import Derived.Shelf.Strconv.Itoa2
import Derived.Shelf.Strconv.Itoa3
import Derived.Shelf.Bytes.Len
import Derived.Shelf.Bytes.TryGrow
import Derived.Shelf.Bytes.GrowSliceCatch
import Derived.Shelf.Bytes.GrowSlice
import Derived.Shelf.Bytes.String
import Derived.Shelf.Strconv.AppendUint10
import Derived.Shelf.Unicode.Decode
import Derived.Shelf.Bits.Mul64
import Derived.Shelf.Unicode.DecodeSlow
import Derived.Shelf.Unicode.DecodeAny
import Derived.Test.YtpkkgngpjeoffaaGreatDoorProg
namespace Go.Proofs
open Go.Shelf
def Tryz.lays119_ren : Go.Shelf.Ren := ⟨fun | 119 => 263 | n => n, fun | 21 => 21 | 4 => 4 | n => n, fun | n => n⟩
theorem Tryz.lays119 : Go.Proofs.Lays.n119 Tryz.prog Tryz.lays119_ren := {
  mixed := by kernel_rfl
  f119 := Tryz.func263.trans (congrArg some (by kernel_rfl))
  t4 := Tryz.underlying4
  a4 := Tryz.isAgg4
  z4 := Tryz.sizeOf4
  v4 := Tryz.zeroValue4
  t21 := Tryz.underlying21
  a21 := Tryz.isAgg21
  z21 := Tryz.sizeOf21
  v21 := Tryz.zeroValue21 }
/-- utf8.ValidRune: "ValidRune reports whether r can be legally encoded as UTF-8. Code points that are out of range or a surrogate half are illegal.": IT RETURNS 'Lib.validRune r'; the world is as it was. (LAID: no walk: one application.) -/
theorem Tryz.utf8_ValidRune (r : Int) (w : World) :
    Calls Tryz.prog 263 #[.int .i32 r] w fun e w' => e = .returned (.bool (Lib.validRune r)) ∧ w' = w := Any.utf8_ValidRune Tryz.lays119 r w
def Tryz.lays129_ren : Go.Shelf.Ren := ⟨fun | 129 => 128 | n => n, fun | 53 => 29 | 3 => 3 | 4 => 4 | 46 => 135 | 5 => 5 | 9 => 9 | n => n, fun | n => n⟩
theorem Tryz.lays129 : Go.Proofs.Lays.n129 Tryz.prog Tryz.lays129_ren := {
  mixed := by kernel_rfl
  f129 := Tryz.func128.trans (congrArg some (by kernel_rfl))
  t3 := Tryz.underlying3
  a3 := Tryz.isAgg3
  z3 := Tryz.sizeOf3
  v3 := Tryz.zeroValue3
  t4 := Tryz.underlying4
  a4 := Tryz.isAgg4
  z4 := Tryz.sizeOf4
  v4 := Tryz.zeroValue4
  t5 := Tryz.underlying5
  a5 := Tryz.isAgg5
  z5 := Tryz.sizeOf5
  v5 := Tryz.zeroValue5
  t9 := Tryz.underlying9
  a9 := Tryz.isAgg9
  z9 := Tryz.sizeOf9
  v9 := Tryz.zeroValue9
  t46 := Tryz.underlying135
  a46 := Tryz.isAgg135
  z46 := Tryz.sizeOf135
  v46 := Tryz.zeroValue135
  t53 := Tryz.underlying29
  a53 := Tryz.isAgg29
  z53 := Tryz.sizeOf29
  v53 := Tryz.zeroValue29 }
/-- bits.Len64: "Len64 returns the minimum number of bits required to represent x; the result is 0 for x == 0.": IT RETURNS 'Lib.bitLen x'; the world is as it was. ('h0', 'h1': x is a uint64.) (LAID: no walk: one application.) -/
theorem Tryz.bits_Len64 (x : Int) (w : World) (h0 : 0 ≤ x) (h1 : x ≤ 18446744073709551615) :
    Calls Tryz.prog 128 #[.int .u64 x] w fun e w' => e = .returned (.int .i64 (Lib.bitLen x.toNat)) ∧ w' = w := Any.bits_Len64 Tryz.lays129 x w h0 h1
def Tryz.lays317_ren : Go.Shelf.Ren := ⟨fun | 317 => 131 | n => n, fun | 3 => 3 | 46 => 135 | n => n, fun | n => n⟩
theorem Tryz.lays317 : Go.Proofs.Lays.n317 Tryz.prog Tryz.lays317_ren := {
  mixed := by kernel_rfl
  f317 := Tryz.func131.trans (congrArg some (by kernel_rfl))
  t3 := Tryz.underlying3
  a3 := Tryz.isAgg3
  z3 := Tryz.sizeOf3
  v3 := Tryz.zeroValue3
  t46 := Tryz.underlying135
  a46 := Tryz.isAgg135
  z46 := Tryz.sizeOf135
  v46 := Tryz.zeroValue135 }
open Go.Lib in
/-- internal/strconv.log10Pow2: "log10Pow2(x) returns ⌊log₁₀ 2**x⌋ = ⌊x * log₁₀ 2⌋.": '(x * 78913) >> 18', at an x up to 64 (a length in bits). The world is as it was. (LAID: no walk: one application.) -/
theorem Tryz.internal_strconv_log10Pow2 (x : Nat) (h : x ≤ 64) (w : World) :
    Calls Tryz.prog 131 #[.int .i64 x] w fun e w' => e = .returned (.int .i64 (Lib.l10 x)) ∧ w' = w := Any.internal_strconv_log10Pow2 Tryz.lays317 x h w
def Tryz.lays318_ren : Go.Shelf.Ren := ⟨fun | 318 => 137 | n => n, fun | 3 => 3 | 4 => 4 | n => n, fun | n => n⟩
theorem Tryz.lays318 : Go.Proofs.Lays.n318 Tryz.prog Tryz.lays318_ren := {
  mixed := by kernel_rfl
  f318 := Tryz.func137.trans (congrArg some (by kernel_rfl))
  t3 := Tryz.underlying3
  a3 := Tryz.isAgg3
  z3 := Tryz.sizeOf3
  v3 := Tryz.zeroValue3
  t4 := Tryz.underlying4
  a4 := Tryz.isAgg4
  z4 := Tryz.sizeOf4
  v4 := Tryz.zeroValue4 }
open Go.Lib in
/-- internal/strconv.bool2: "bool2 converts b to an integer: 1 for true, 0 for false." The world is as it was. (LAID: no walk: one application.) -/
theorem Tryz.internal_strconv_bool2_int (b : Bool) (w : World) :
    Calls Tryz.prog 137 #[.bool b] w fun e w' => e = .returned (.int .i64 (if b then 1 else 0)) ∧ w' = w := Any.internal_strconv_bool2_int Tryz.lays318 b w
def Tryz.lays283_ren : Go.Shelf.Ren := ⟨fun | 283 => 115 | n => n, fun | 3 => 3 | 9 => 9 | 4 => 4 | n => n, fun | n => n⟩
theorem Tryz.lays283 : Go.Proofs.Lays.n283 Tryz.prog Tryz.lays283_ren := {
  mixed := by kernel_rfl
  f283 := Tryz.func115.trans (congrArg some (by kernel_rfl))
  t3 := Tryz.underlying3
  a3 := Tryz.isAgg3
  z3 := Tryz.sizeOf3
  v3 := Tryz.zeroValue3
  t4 := Tryz.underlying4
  a4 := Tryz.isAgg4
  z4 := Tryz.sizeOf4
  v4 := Tryz.zeroValue4
  t9 := Tryz.underlying9
  a9 := Tryz.isAgg9
  z9 := Tryz.sizeOf9
  v9 := Tryz.zeroValue9 }
open Go.Lib in
/-- internal/strconv.small: "small returns the string for an i with 0 <= i < nSmalls.": i's decimal numeral. The world is as it was. (LAID: no walk: one application.) -/
theorem Tryz.internal_strconv_small (i : Nat) (h : i < 100) (w : World) :
    Calls Tryz.prog 115 #[.int .i64 i] w fun e w' => e = .returned (.string ⟨(Lib.decDigits i).toArray⟩) ∧ w' = w := Any.internal_strconv_small Tryz.lays283 i h w
def Tryz.laysM284_ren : Go.Shelf.Ren := ⟨fun | 284 => 116 | 129 => 128 | 317 => 131 | 318 => 137 | n => n, fun | 53 => 29 | 3 => 3 | 212 => 280 | 0 => 0 | 4 => 4 | 46 => 135 | 5 => 5 | 9 => 9 | n => n, fun | 17 => 7 | n => n⟩
theorem Tryz.laysM284 : Go.Proofs.LaysM.n284 Tryz.prog Tryz.laysM284_ren := {
  mixed := by kernel_rfl
  f129 := Tryz.func128.trans (congrArg some (by kernel_rfl))
  f284 := Tryz.func116.trans (congrArg some (by kernel_rfl))
  f317 := Tryz.func131.trans (congrArg some (by kernel_rfl))
  f318 := Tryz.func137.trans (congrArg some (by kernel_rfl))
  t0 := Tryz.underlying0
  a0 := Tryz.isAgg0
  z0 := Tryz.sizeOf0
  v0 := Tryz.zeroValue0
  t3 := Tryz.underlying3
  a3 := Tryz.isAgg3
  z3 := Tryz.sizeOf3
  v3 := Tryz.zeroValue3
  t4 := Tryz.underlying4
  a4 := Tryz.isAgg4
  z4 := Tryz.sizeOf4
  v4 := Tryz.zeroValue4
  t5 := Tryz.underlying5
  a5 := Tryz.isAgg5
  z5 := Tryz.sizeOf5
  v5 := Tryz.zeroValue5
  t9 := Tryz.underlying9
  a9 := Tryz.isAgg9
  z9 := Tryz.sizeOf9
  v9 := Tryz.zeroValue9
  t46 := Tryz.underlying135
  a46 := Tryz.isAgg135
  z46 := Tryz.sizeOf135
  v46 := Tryz.zeroValue135
  t53 := Tryz.underlying29
  a53 := Tryz.isAgg29
  z53 := Tryz.sizeOf29
  v53 := Tryz.zeroValue29
  t212 := Tryz.underlying280
  a212 := Tryz.isAgg280
  z212 := Tryz.sizeOf280
  v212 := Tryz.zeroValue280
  g17 := by kernel_rfl
  i0 := by kernel_rfl
  i3 := by kernel_rfl
  i4 := by kernel_rfl
  i5 := by kernel_rfl
  i9 := by kernel_rfl
  i46 := by kernel_rfl
  i53 := by kernel_rfl
  i212 := by kernel_rfl
  m17 := by kernel_rfl }
open Go.Lib in
/-- internal/strconv.numDigits, at a d that is not 0: THE NUMBER OF d's DECIMAL DIGITS. The world is as it was. (LAID: no walk: one application.) -/
theorem Tryz.internal_strconv_numDigits (u : Nat) (h1 : 1 ≤ u) (h2 : u < 18446744073709551616) (w : World) (htab : Lib.TabIs Tryz.prog w "internal/strconv.uint64pow10" .u64 Lib.pow10Tab) :
    Calls Tryz.prog 116 #[.int .u64 u] w fun e w' => e = .returned (.int .i64 (Lib.nDigits u)) ∧ w' = w := Any.internal_strconv_numDigits Tryz.laysM284 u h1 h2 w htab
def Tryz.lays285_ren : Go.Shelf.Ren := ⟨fun | 285 => 117 | n => n, fun | 37 => 42 | 53 => 29 | 3 => 3 | 4 => 4 | 51 => 137 | 9 => 9 | 5 => 5 | 0 => 0 | n => n, fun | n => n⟩
theorem Tryz.lays285 : Go.Proofs.Lays.n285 Tryz.prog Tryz.lays285_ren := {
  mixed := by kernel_rfl
  f285 := Tryz.func117.trans (congrArg some (by kernel_rfl))
  t0 := Tryz.underlying0
  a0 := Tryz.isAgg0
  z0 := Tryz.sizeOf0
  v0 := Tryz.zeroValue0
  t3 := Tryz.underlying3
  a3 := Tryz.isAgg3
  z3 := Tryz.sizeOf3
  v3 := Tryz.zeroValue3
  t4 := Tryz.underlying4
  a4 := Tryz.isAgg4
  z4 := Tryz.sizeOf4
  v4 := Tryz.zeroValue4
  t5 := Tryz.underlying5
  a5 := Tryz.isAgg5
  z5 := Tryz.sizeOf5
  v5 := Tryz.zeroValue5
  t9 := Tryz.underlying9
  a9 := Tryz.isAgg9
  z9 := Tryz.sizeOf9
  v9 := Tryz.zeroValue9
  t37 := Tryz.underlying42
  a37 := Tryz.isAgg42
  z37 := Tryz.sizeOf42
  v37 := Tryz.zeroValue42
  t51 := Tryz.underlying137
  a51 := Tryz.isAgg137
  z51 := Tryz.sizeOf137
  v51 := Tryz.zeroValue137
  t53 := Tryz.underlying29
  a53 := Tryz.isAgg29
  z53 := Tryz.sizeOf29
  v53 := Tryz.zeroValue29 }
open Go.RowKit Go.Sort Go.Lib in
/-- internal/strconv.formatBase10: "formatBase10 formats the decimal representation of u into a. The caller is responsible for ensuring that a is big enough to hold u. If a is too big, leading zeros will be filled in as needed.": THE ROW HOLDS u's DIGITS ('FmtInv .. 0 ..': every place t holds 'dg u (len - 1 - t)'); all else is as it was but for the count of draws. (LAID: no walk: one application.) -/
theorem Tryz.internal_strconv_formatBase10 (blk off cap : Nat) (u : Nat) (d : Array UInt8) (w : World) (hH : Holds (fun (b : UInt8) => Value.int .u8 (b.toNat : Int)) w blk off d) (hu : u < 10 ^ d.size) (hu64 : u < 18446744073709551616) (hsz : d.size < 4611686018427387904) :
    Calls Tryz.prog 117 #[.slice (some ⟨blk, off, none⟩) d.size cap, .int .u64 u] w fun e w' =>
      e = .returned (.tuple #[]) ∧ ∃ (n v' : Nat) (dk : Array UInt8), w' = (putRow (fun (b : UInt8) => Value.int .u8 (b.toNat : Int)) w blk off dk).drewN n ∧ FmtInv d.size u 0 v' dk := Any.internal_strconv_formatBase10 Tryz.lays285 blk off cap u d w hH hu hu64 hsz
def Tryz.laysM246_ren : Go.Shelf.Ren := ⟨fun | 246 => 180 | 283 => 115 | 284 => 116 | 285 => 117 | 286 => 118 | 129 => 128 | 317 => 131 | 318 => 137 | 319 => 138 | 320 => 139 | 337 => 171 | 338 => 172 | n => n, fun | 2 => 2 | 3 => 3 | 9 => 9 | 4 => 4 | 171 => 244 | 0 => 0 | 53 => 29 | 37 => 42 | 5 => 5 | 173 => 247 | 212 => 280 | 51 => 137 | 20 => 20 | 213 => 281 | 46 => 135 | 232 => 258 | 233 => 337 | n => n, fun | 17 => 7 | 18 => 15 | 19 => 16 | n => n⟩
theorem Tryz.laysM246 : Go.Proofs.LaysM.n246 Tryz.prog Tryz.laysM246_ren := {
  mixed := by kernel_rfl
  f129 := Tryz.func128.trans (congrArg some (by kernel_rfl))
  f246 := Tryz.func180.trans (congrArg some (by kernel_rfl))
  f283 := Tryz.func115.trans (congrArg some (by kernel_rfl))
  f284 := Tryz.func116.trans (congrArg some (by kernel_rfl))
  f285 := Tryz.func117.trans (congrArg some (by kernel_rfl))
  f286 := Tryz.func118.trans (congrArg some (by kernel_rfl))
  f317 := Tryz.func131.trans (congrArg some (by kernel_rfl))
  f318 := Tryz.func137.trans (congrArg some (by kernel_rfl))
  f319 := Tryz.func138.trans (congrArg some (by kernel_rfl))
  f320 := Tryz.func139.trans (congrArg some (by kernel_rfl))
  f337 := Tryz.func171.trans (congrArg some (by kernel_rfl))
  f338 := Tryz.func172.trans (congrArg some (by kernel_rfl))
  t0 := Tryz.underlying0
  a0 := Tryz.isAgg0
  z0 := Tryz.sizeOf0
  v0 := Tryz.zeroValue0
  t2 := Tryz.underlying2
  a2 := Tryz.isAgg2
  z2 := Tryz.sizeOf2
  v2 := Tryz.zeroValue2
  t3 := Tryz.underlying3
  a3 := Tryz.isAgg3
  z3 := Tryz.sizeOf3
  v3 := Tryz.zeroValue3
  t4 := Tryz.underlying4
  a4 := Tryz.isAgg4
  z4 := Tryz.sizeOf4
  v4 := Tryz.zeroValue4
  t5 := Tryz.underlying5
  a5 := Tryz.isAgg5
  z5 := Tryz.sizeOf5
  v5 := Tryz.zeroValue5
  t9 := Tryz.underlying9
  a9 := Tryz.isAgg9
  z9 := Tryz.sizeOf9
  v9 := Tryz.zeroValue9
  t20 := Tryz.underlying20
  a20 := Tryz.isAgg20
  z20 := Tryz.sizeOf20
  v20 := Tryz.zeroValue20
  t37 := Tryz.underlying42
  a37 := Tryz.isAgg42
  z37 := Tryz.sizeOf42
  v37 := Tryz.zeroValue42
  t46 := Tryz.underlying135
  a46 := Tryz.isAgg135
  z46 := Tryz.sizeOf135
  v46 := Tryz.zeroValue135
  t51 := Tryz.underlying137
  a51 := Tryz.isAgg137
  z51 := Tryz.sizeOf137
  v51 := Tryz.zeroValue137
  t53 := Tryz.underlying29
  a53 := Tryz.isAgg29
  z53 := Tryz.sizeOf29
  v53 := Tryz.zeroValue29
  t171 := Tryz.underlying244
  a171 := Tryz.isAgg244
  z171 := Tryz.sizeOf244
  v171 := Tryz.zeroValue244
  t173 := Tryz.underlying247
  a173 := Tryz.isAgg247
  z173 := Tryz.sizeOf247
  v173 := Tryz.zeroValue247
  t212 := Tryz.underlying280
  a212 := Tryz.isAgg280
  z212 := Tryz.sizeOf280
  v212 := Tryz.zeroValue280
  t213 := Tryz.underlying281
  a213 := Tryz.isAgg281
  z213 := Tryz.sizeOf281
  t232 := Tryz.underlying258
  a232 := Tryz.isAgg258
  z232 := Tryz.sizeOf258
  v232 := Tryz.zeroValue258
  t233 := Tryz.underlying337
  a233 := Tryz.isAgg337
  z233 := Tryz.sizeOf337
  v233 := Tryz.zeroValue337
  g17 := by kernel_rfl
  g18 := by kernel_rfl
  g19 := by kernel_rfl
  i0 := by kernel_rfl
  i2 := by kernel_rfl
  i3 := by kernel_rfl
  i4 := by kernel_rfl
  i5 := by kernel_rfl
  i9 := by kernel_rfl
  i20 := by kernel_rfl
  i37 := by kernel_rfl
  i46 := by kernel_rfl
  i51 := by kernel_rfl
  i53 := by kernel_rfl
  i171 := by kernel_rfl
  i173 := by kernel_rfl
  i212 := by kernel_rfl
  i232 := by kernel_rfl
  i233 := by kernel_rfl
  m17 := by kernel_rfl
  m18 := by kernel_rfl
  m19 := by kernel_rfl }
open Go.RowKit Go.Sort Go.Lib in
/-- internal/strconv.FormatInt: "FormatInt returns the string representation of i in the given base": AT BASE 10: i's decimal numeral, for every int64. The world behind the call: the world before it, new blocks behind the heap, draws. (LAID: no walk: one application.) -/
theorem Tryz.internal_strconv_FormatInt_10 (n : Int) (h0 : -9223372036854775808 ≤ n) (h1 : n ≤ 9223372036854775807) (w : World) (htab : Lib.TabIs Tryz.prog w "internal/strconv.uint64pow10" .u64 Lib.pow10Tab) :
    Calls Tryz.prog 180 #[.int .i64 n, .int .i64 10] w fun e w' => e = .returned (.string ⟨(Lib.itoa n).toArray⟩) ∧ ∃ k os, w' = grow (w.drewN k) os := Any.internal_strconv_FormatInt_10 Tryz.laysM246 n h0 h1 w htab
def Tryz.lays246_ren : Go.Shelf.Ren := ⟨fun | 246 => 180 | 283 => 115 | 284 => 116 | 285 => 117 | 286 => 118 | 129 => 128 | 317 => 131 | 318 => 137 | 319 => 138 | 320 => 139 | 337 => 171 | 338 => 172 | n => n, fun | 2 => 2 | 3 => 3 | 9 => 9 | 4 => 4 | 171 => 244 | 0 => 0 | 53 => 29 | 37 => 42 | 5 => 5 | 173 => 247 | 212 => 280 | 51 => 137 | 20 => 20 | 213 => 281 | 46 => 135 | 232 => 258 | 233 => 337 | n => n, fun | 17 => 7 | 18 => 15 | 19 => 16 | n => n⟩
theorem Tryz.lays246 : Go.Proofs.Lays.n246 Tryz.prog Tryz.lays246_ren := {
  mixed := by kernel_rfl
  f129 := Tryz.func128.trans (congrArg some (by kernel_rfl))
  f246 := Tryz.func180.trans (congrArg some (by kernel_rfl))
  f283 := Tryz.func115.trans (congrArg some (by kernel_rfl))
  f284 := Tryz.func116.trans (congrArg some (by kernel_rfl))
  f285 := Tryz.func117.trans (congrArg some (by kernel_rfl))
  f286 := Tryz.func118.trans (congrArg some (by kernel_rfl))
  f317 := Tryz.func131.trans (congrArg some (by kernel_rfl))
  f318 := Tryz.func137.trans (congrArg some (by kernel_rfl))
  f319 := Tryz.func138.trans (congrArg some (by kernel_rfl))
  f320 := Tryz.func139.trans (congrArg some (by kernel_rfl))
  f337 := Tryz.func171.trans (congrArg some (by kernel_rfl))
  f338 := Tryz.func172.trans (congrArg some (by kernel_rfl))
  t0 := Tryz.underlying0
  a0 := Tryz.isAgg0
  z0 := Tryz.sizeOf0
  v0 := Tryz.zeroValue0
  t2 := Tryz.underlying2
  a2 := Tryz.isAgg2
  z2 := Tryz.sizeOf2
  v2 := Tryz.zeroValue2
  t3 := Tryz.underlying3
  a3 := Tryz.isAgg3
  z3 := Tryz.sizeOf3
  v3 := Tryz.zeroValue3
  t4 := Tryz.underlying4
  a4 := Tryz.isAgg4
  z4 := Tryz.sizeOf4
  v4 := Tryz.zeroValue4
  t5 := Tryz.underlying5
  a5 := Tryz.isAgg5
  z5 := Tryz.sizeOf5
  v5 := Tryz.zeroValue5
  t9 := Tryz.underlying9
  a9 := Tryz.isAgg9
  z9 := Tryz.sizeOf9
  v9 := Tryz.zeroValue9
  t20 := Tryz.underlying20
  a20 := Tryz.isAgg20
  z20 := Tryz.sizeOf20
  v20 := Tryz.zeroValue20
  t37 := Tryz.underlying42
  a37 := Tryz.isAgg42
  z37 := Tryz.sizeOf42
  v37 := Tryz.zeroValue42
  t46 := Tryz.underlying135
  a46 := Tryz.isAgg135
  z46 := Tryz.sizeOf135
  v46 := Tryz.zeroValue135
  t51 := Tryz.underlying137
  a51 := Tryz.isAgg137
  z51 := Tryz.sizeOf137
  v51 := Tryz.zeroValue137
  t53 := Tryz.underlying29
  a53 := Tryz.isAgg29
  z53 := Tryz.sizeOf29
  v53 := Tryz.zeroValue29
  t171 := Tryz.underlying244
  a171 := Tryz.isAgg244
  z171 := Tryz.sizeOf244
  v171 := Tryz.zeroValue244
  t173 := Tryz.underlying247
  a173 := Tryz.isAgg247
  z173 := Tryz.sizeOf247
  v173 := Tryz.zeroValue247
  t212 := Tryz.underlying280
  a212 := Tryz.isAgg280
  z212 := Tryz.sizeOf280
  v212 := Tryz.zeroValue280
  t213 := Tryz.underlying281
  a213 := Tryz.isAgg281
  z213 := Tryz.sizeOf281
  t232 := Tryz.underlying258
  a232 := Tryz.isAgg258
  z232 := Tryz.sizeOf258
  v232 := Tryz.zeroValue258
  t233 := Tryz.underlying337
  a233 := Tryz.isAgg337
  z233 := Tryz.sizeOf337
  v233 := Tryz.zeroValue337
  g17 := by kernel_rfl
  g18 := by kernel_rfl
  g19 := by kernel_rfl }
open Go.RowKit Go.Sort Go.Lib in
/-- THE ROAD WITHOUT THE TABLE: 0 <= i < 100: two constants are read, nothing is laid: no premise on the world, and the world is as it was. (LAID: no walk: one application.) -/
theorem Tryz.internal_strconv_FormatInt_10_small (i : Nat) (hi : i < 100) (w : World) :
    Calls Tryz.prog 180 #[.int .i64 i, .int .i64 10] w fun e w' => e = .returned (.string ⟨(Lib.decDigits i).toArray⟩) ∧ w' = w := Any.internal_strconv_FormatInt_10_small Tryz.lays246 i hi w
def Tryz.laysM243_ren : Go.Shelf.Ren := ⟨fun | 243 => 153 | 246 => 180 | 283 => 115 | 284 => 116 | 285 => 117 | 286 => 118 | 129 => 128 | 317 => 131 | 318 => 137 | 319 => 138 | 320 => 139 | 337 => 171 | 338 => 172 | n => n, fun | 3 => 3 | 9 => 9 | 2 => 2 | 4 => 4 | 171 => 244 | 0 => 0 | 53 => 29 | 37 => 42 | 5 => 5 | 173 => 247 | 212 => 280 | 51 => 137 | 20 => 20 | 213 => 281 | 46 => 135 | 232 => 258 | 233 => 337 | n => n, fun | 17 => 7 | 18 => 15 | 19 => 16 | n => n⟩
theorem Tryz.laysM243 : Go.Proofs.LaysM.n243 Tryz.prog Tryz.laysM243_ren := {
  mixed := by kernel_rfl
  f129 := Tryz.func128.trans (congrArg some (by kernel_rfl))
  f243 := Tryz.func153.trans (congrArg some (by kernel_rfl))
  f246 := Tryz.func180.trans (congrArg some (by kernel_rfl))
  f283 := Tryz.func115.trans (congrArg some (by kernel_rfl))
  f284 := Tryz.func116.trans (congrArg some (by kernel_rfl))
  f285 := Tryz.func117.trans (congrArg some (by kernel_rfl))
  f286 := Tryz.func118.trans (congrArg some (by kernel_rfl))
  f317 := Tryz.func131.trans (congrArg some (by kernel_rfl))
  f318 := Tryz.func137.trans (congrArg some (by kernel_rfl))
  f319 := Tryz.func138.trans (congrArg some (by kernel_rfl))
  f320 := Tryz.func139.trans (congrArg some (by kernel_rfl))
  f337 := Tryz.func171.trans (congrArg some (by kernel_rfl))
  f338 := Tryz.func172.trans (congrArg some (by kernel_rfl))
  t0 := Tryz.underlying0
  a0 := Tryz.isAgg0
  z0 := Tryz.sizeOf0
  v0 := Tryz.zeroValue0
  t2 := Tryz.underlying2
  a2 := Tryz.isAgg2
  z2 := Tryz.sizeOf2
  v2 := Tryz.zeroValue2
  t3 := Tryz.underlying3
  a3 := Tryz.isAgg3
  z3 := Tryz.sizeOf3
  v3 := Tryz.zeroValue3
  t4 := Tryz.underlying4
  a4 := Tryz.isAgg4
  z4 := Tryz.sizeOf4
  v4 := Tryz.zeroValue4
  t5 := Tryz.underlying5
  a5 := Tryz.isAgg5
  z5 := Tryz.sizeOf5
  v5 := Tryz.zeroValue5
  t9 := Tryz.underlying9
  a9 := Tryz.isAgg9
  z9 := Tryz.sizeOf9
  v9 := Tryz.zeroValue9
  t20 := Tryz.underlying20
  a20 := Tryz.isAgg20
  z20 := Tryz.sizeOf20
  v20 := Tryz.zeroValue20
  t37 := Tryz.underlying42
  a37 := Tryz.isAgg42
  z37 := Tryz.sizeOf42
  v37 := Tryz.zeroValue42
  t46 := Tryz.underlying135
  a46 := Tryz.isAgg135
  z46 := Tryz.sizeOf135
  v46 := Tryz.zeroValue135
  t51 := Tryz.underlying137
  a51 := Tryz.isAgg137
  z51 := Tryz.sizeOf137
  v51 := Tryz.zeroValue137
  t53 := Tryz.underlying29
  a53 := Tryz.isAgg29
  z53 := Tryz.sizeOf29
  v53 := Tryz.zeroValue29
  t171 := Tryz.underlying244
  a171 := Tryz.isAgg244
  z171 := Tryz.sizeOf244
  v171 := Tryz.zeroValue244
  t173 := Tryz.underlying247
  a173 := Tryz.isAgg247
  z173 := Tryz.sizeOf247
  v173 := Tryz.zeroValue247
  t212 := Tryz.underlying280
  a212 := Tryz.isAgg280
  z212 := Tryz.sizeOf280
  v212 := Tryz.zeroValue280
  t213 := Tryz.underlying281
  a213 := Tryz.isAgg281
  z213 := Tryz.sizeOf281
  t232 := Tryz.underlying258
  a232 := Tryz.isAgg258
  z232 := Tryz.sizeOf258
  v232 := Tryz.zeroValue258
  t233 := Tryz.underlying337
  a233 := Tryz.isAgg337
  z233 := Tryz.sizeOf337
  v233 := Tryz.zeroValue337
  g17 := by kernel_rfl
  g18 := by kernel_rfl
  g19 := by kernel_rfl
  i0 := by kernel_rfl
  i2 := by kernel_rfl
  i3 := by kernel_rfl
  i4 := by kernel_rfl
  i5 := by kernel_rfl
  i9 := by kernel_rfl
  i20 := by kernel_rfl
  i37 := by kernel_rfl
  i46 := by kernel_rfl
  i51 := by kernel_rfl
  i53 := by kernel_rfl
  i171 := by kernel_rfl
  i173 := by kernel_rfl
  i212 := by kernel_rfl
  i232 := by kernel_rfl
  i233 := by kernel_rfl
  m17 := by kernel_rfl
  m18 := by kernel_rfl
  m19 := by kernel_rfl }
open Go.RowKit Go.Sort Go.Lib in
/-- internal/strconv.Itoa: "Itoa is equivalent to FormatInt(int64(i), 10).": i's decimal numeral, for every int. (LAID: no walk: one application.) -/
theorem Tryz.internal_strconv_Itoa (n : Int) (h0 : -9223372036854775808 ≤ n) (h1 : n ≤ 9223372036854775807) (w : World) (htab : Lib.TabIs Tryz.prog w "internal/strconv.uint64pow10" .u64 Lib.pow10Tab) :
    Calls Tryz.prog 153 #[.int .i64 n] w fun e w' => e = .returned (.string ⟨(Lib.itoa n).toArray⟩) ∧ ∃ k os, w' = grow (w.drewN k) os := Any.internal_strconv_Itoa Tryz.laysM243 n h0 h1 w htab
def Tryz.lays243_ren : Go.Shelf.Ren := ⟨fun | 243 => 153 | 246 => 180 | 283 => 115 | 284 => 116 | 285 => 117 | 286 => 118 | 129 => 128 | 317 => 131 | 318 => 137 | 319 => 138 | 320 => 139 | 337 => 171 | 338 => 172 | n => n, fun | 3 => 3 | 9 => 9 | 2 => 2 | 4 => 4 | 171 => 244 | 0 => 0 | 53 => 29 | 37 => 42 | 5 => 5 | 173 => 247 | 212 => 280 | 51 => 137 | 20 => 20 | 213 => 281 | 46 => 135 | 232 => 258 | 233 => 337 | n => n, fun | 17 => 7 | 18 => 15 | 19 => 16 | n => n⟩
theorem Tryz.lays243 : Go.Proofs.Lays.n243 Tryz.prog Tryz.lays243_ren := {
  mixed := by kernel_rfl
  f129 := Tryz.func128.trans (congrArg some (by kernel_rfl))
  f243 := Tryz.func153.trans (congrArg some (by kernel_rfl))
  f246 := Tryz.func180.trans (congrArg some (by kernel_rfl))
  f283 := Tryz.func115.trans (congrArg some (by kernel_rfl))
  f284 := Tryz.func116.trans (congrArg some (by kernel_rfl))
  f285 := Tryz.func117.trans (congrArg some (by kernel_rfl))
  f286 := Tryz.func118.trans (congrArg some (by kernel_rfl))
  f317 := Tryz.func131.trans (congrArg some (by kernel_rfl))
  f318 := Tryz.func137.trans (congrArg some (by kernel_rfl))
  f319 := Tryz.func138.trans (congrArg some (by kernel_rfl))
  f320 := Tryz.func139.trans (congrArg some (by kernel_rfl))
  f337 := Tryz.func171.trans (congrArg some (by kernel_rfl))
  f338 := Tryz.func172.trans (congrArg some (by kernel_rfl))
  t0 := Tryz.underlying0
  a0 := Tryz.isAgg0
  z0 := Tryz.sizeOf0
  v0 := Tryz.zeroValue0
  t2 := Tryz.underlying2
  a2 := Tryz.isAgg2
  z2 := Tryz.sizeOf2
  v2 := Tryz.zeroValue2
  t3 := Tryz.underlying3
  a3 := Tryz.isAgg3
  z3 := Tryz.sizeOf3
  v3 := Tryz.zeroValue3
  t4 := Tryz.underlying4
  a4 := Tryz.isAgg4
  z4 := Tryz.sizeOf4
  v4 := Tryz.zeroValue4
  t5 := Tryz.underlying5
  a5 := Tryz.isAgg5
  z5 := Tryz.sizeOf5
  v5 := Tryz.zeroValue5
  t9 := Tryz.underlying9
  a9 := Tryz.isAgg9
  z9 := Tryz.sizeOf9
  v9 := Tryz.zeroValue9
  t20 := Tryz.underlying20
  a20 := Tryz.isAgg20
  z20 := Tryz.sizeOf20
  v20 := Tryz.zeroValue20
  t37 := Tryz.underlying42
  a37 := Tryz.isAgg42
  z37 := Tryz.sizeOf42
  v37 := Tryz.zeroValue42
  t46 := Tryz.underlying135
  a46 := Tryz.isAgg135
  z46 := Tryz.sizeOf135
  v46 := Tryz.zeroValue135
  t51 := Tryz.underlying137
  a51 := Tryz.isAgg137
  z51 := Tryz.sizeOf137
  v51 := Tryz.zeroValue137
  t53 := Tryz.underlying29
  a53 := Tryz.isAgg29
  z53 := Tryz.sizeOf29
  v53 := Tryz.zeroValue29
  t171 := Tryz.underlying244
  a171 := Tryz.isAgg244
  z171 := Tryz.sizeOf244
  v171 := Tryz.zeroValue244
  t173 := Tryz.underlying247
  a173 := Tryz.isAgg247
  z173 := Tryz.sizeOf247
  v173 := Tryz.zeroValue247
  t212 := Tryz.underlying280
  a212 := Tryz.isAgg280
  z212 := Tryz.sizeOf280
  v212 := Tryz.zeroValue280
  t213 := Tryz.underlying281
  a213 := Tryz.isAgg281
  z213 := Tryz.sizeOf281
  t232 := Tryz.underlying258
  a232 := Tryz.isAgg258
  z232 := Tryz.sizeOf258
  v232 := Tryz.zeroValue258
  t233 := Tryz.underlying337
  a233 := Tryz.isAgg337
  z233 := Tryz.sizeOf337
  v233 := Tryz.zeroValue337
  g17 := by kernel_rfl
  g18 := by kernel_rfl
  g19 := by kernel_rfl }
open Go.RowKit Go.Sort Go.Lib in
/-- THE ROAD WITHOUT THE TABLE: 0 <= i < 100. (LAID: no walk: one application.) -/
theorem Tryz.internal_strconv_Itoa_small (i : Nat) (hi : i < 100) (w : World) :
    Calls Tryz.prog 153 #[.int .i64 i] w fun e w' => e = .returned (.string ⟨(Lib.decDigits i).toArray⟩) ∧ w' = w := Any.internal_strconv_Itoa_small Tryz.lays243 i hi w
def Tryz.laysM171_ren : Go.Shelf.Ren := ⟨fun | 171 => 122 | 243 => 153 | 246 => 180 | 283 => 115 | 284 => 116 | 285 => 117 | 286 => 118 | 129 => 128 | 317 => 131 | 318 => 137 | 319 => 138 | 320 => 139 | 337 => 171 | 338 => 172 | n => n, fun | 3 => 3 | 9 => 9 | 2 => 2 | 4 => 4 | 171 => 244 | 0 => 0 | 53 => 29 | 37 => 42 | 5 => 5 | 173 => 247 | 212 => 280 | 51 => 137 | 20 => 20 | 213 => 281 | 46 => 135 | 232 => 258 | 233 => 337 | n => n, fun | 17 => 7 | 18 => 15 | 19 => 16 | n => n⟩
theorem Tryz.laysM171 : Go.Proofs.LaysM.n171 Tryz.prog Tryz.laysM171_ren := {
  mixed := by kernel_rfl
  f129 := Tryz.func128.trans (congrArg some (by kernel_rfl))
  f171 := Tryz.func122.trans (congrArg some (by kernel_rfl))
  f243 := Tryz.func153.trans (congrArg some (by kernel_rfl))
  f246 := Tryz.func180.trans (congrArg some (by kernel_rfl))
  f283 := Tryz.func115.trans (congrArg some (by kernel_rfl))
  f284 := Tryz.func116.trans (congrArg some (by kernel_rfl))
  f285 := Tryz.func117.trans (congrArg some (by kernel_rfl))
  f286 := Tryz.func118.trans (congrArg some (by kernel_rfl))
  f317 := Tryz.func131.trans (congrArg some (by kernel_rfl))
  f318 := Tryz.func137.trans (congrArg some (by kernel_rfl))
  f319 := Tryz.func138.trans (congrArg some (by kernel_rfl))
  f320 := Tryz.func139.trans (congrArg some (by kernel_rfl))
  f337 := Tryz.func171.trans (congrArg some (by kernel_rfl))
  f338 := Tryz.func172.trans (congrArg some (by kernel_rfl))
  t0 := Tryz.underlying0
  a0 := Tryz.isAgg0
  z0 := Tryz.sizeOf0
  v0 := Tryz.zeroValue0
  t2 := Tryz.underlying2
  a2 := Tryz.isAgg2
  z2 := Tryz.sizeOf2
  v2 := Tryz.zeroValue2
  t3 := Tryz.underlying3
  a3 := Tryz.isAgg3
  z3 := Tryz.sizeOf3
  v3 := Tryz.zeroValue3
  t4 := Tryz.underlying4
  a4 := Tryz.isAgg4
  z4 := Tryz.sizeOf4
  v4 := Tryz.zeroValue4
  t5 := Tryz.underlying5
  a5 := Tryz.isAgg5
  z5 := Tryz.sizeOf5
  v5 := Tryz.zeroValue5
  t9 := Tryz.underlying9
  a9 := Tryz.isAgg9
  z9 := Tryz.sizeOf9
  v9 := Tryz.zeroValue9
  t20 := Tryz.underlying20
  a20 := Tryz.isAgg20
  z20 := Tryz.sizeOf20
  v20 := Tryz.zeroValue20
  t37 := Tryz.underlying42
  a37 := Tryz.isAgg42
  z37 := Tryz.sizeOf42
  v37 := Tryz.zeroValue42
  t46 := Tryz.underlying135
  a46 := Tryz.isAgg135
  z46 := Tryz.sizeOf135
  v46 := Tryz.zeroValue135
  t51 := Tryz.underlying137
  a51 := Tryz.isAgg137
  z51 := Tryz.sizeOf137
  v51 := Tryz.zeroValue137
  t53 := Tryz.underlying29
  a53 := Tryz.isAgg29
  z53 := Tryz.sizeOf29
  v53 := Tryz.zeroValue29
  t171 := Tryz.underlying244
  a171 := Tryz.isAgg244
  z171 := Tryz.sizeOf244
  v171 := Tryz.zeroValue244
  t173 := Tryz.underlying247
  a173 := Tryz.isAgg247
  z173 := Tryz.sizeOf247
  v173 := Tryz.zeroValue247
  t212 := Tryz.underlying280
  a212 := Tryz.isAgg280
  z212 := Tryz.sizeOf280
  v212 := Tryz.zeroValue280
  t213 := Tryz.underlying281
  a213 := Tryz.isAgg281
  z213 := Tryz.sizeOf281
  t232 := Tryz.underlying258
  a232 := Tryz.isAgg258
  z232 := Tryz.sizeOf258
  v232 := Tryz.zeroValue258
  t233 := Tryz.underlying337
  a233 := Tryz.isAgg337
  z233 := Tryz.sizeOf337
  v233 := Tryz.zeroValue337
  g17 := by kernel_rfl
  g18 := by kernel_rfl
  g19 := by kernel_rfl
  i0 := by kernel_rfl
  i2 := by kernel_rfl
  i3 := by kernel_rfl
  i4 := by kernel_rfl
  i5 := by kernel_rfl
  i9 := by kernel_rfl
  i20 := by kernel_rfl
  i37 := by kernel_rfl
  i46 := by kernel_rfl
  i51 := by kernel_rfl
  i53 := by kernel_rfl
  i171 := by kernel_rfl
  i173 := by kernel_rfl
  i212 := by kernel_rfl
  i232 := by kernel_rfl
  i233 := by kernel_rfl
  m17 := by kernel_rfl
  m18 := by kernel_rfl
  m19 := by kernel_rfl }
open Go.RowKit Go.Sort Go.Lib in
/-- strconv.Itoa: "Itoa is equivalent to FormatInt(int64(i), 10).": i's DECIMAL NUMERAL ('Lib.itoa': a '-' where i is negative, then the digits), FOR EVERY int. The world behind the call: the world before it, new blocks behind the heap (the library's 'var a [24]byte'), draws. (LAID: no walk: one application.) -/
theorem Tryz.strconv_Itoa (n : Int) (h0 : -9223372036854775808 ≤ n) (h1 : n ≤ 9223372036854775807) (w : World) (htab : Lib.TabIs Tryz.prog w "internal/strconv.uint64pow10" .u64 Lib.pow10Tab) :
    Calls Tryz.prog 122 #[.int .i64 n] w fun e w' => e = .returned (.string ⟨(Lib.itoa n).toArray⟩) ∧ ∃ k os, w' = grow (w.drewN k) os := Any.strconv_Itoa Tryz.laysM171 n h0 h1 w htab
def Tryz.lays171_ren : Go.Shelf.Ren := ⟨fun | 171 => 122 | 243 => 153 | 246 => 180 | 283 => 115 | 284 => 116 | 285 => 117 | 286 => 118 | 129 => 128 | 317 => 131 | 318 => 137 | 319 => 138 | 320 => 139 | 337 => 171 | 338 => 172 | n => n, fun | 3 => 3 | 9 => 9 | 2 => 2 | 4 => 4 | 171 => 244 | 0 => 0 | 53 => 29 | 37 => 42 | 5 => 5 | 173 => 247 | 212 => 280 | 51 => 137 | 20 => 20 | 213 => 281 | 46 => 135 | 232 => 258 | 233 => 337 | n => n, fun | 17 => 7 | 18 => 15 | 19 => 16 | n => n⟩
theorem Tryz.lays171 : Go.Proofs.Lays.n171 Tryz.prog Tryz.lays171_ren := {
  mixed := by kernel_rfl
  f129 := Tryz.func128.trans (congrArg some (by kernel_rfl))
  f171 := Tryz.func122.trans (congrArg some (by kernel_rfl))
  f243 := Tryz.func153.trans (congrArg some (by kernel_rfl))
  f246 := Tryz.func180.trans (congrArg some (by kernel_rfl))
  f283 := Tryz.func115.trans (congrArg some (by kernel_rfl))
  f284 := Tryz.func116.trans (congrArg some (by kernel_rfl))
  f285 := Tryz.func117.trans (congrArg some (by kernel_rfl))
  f286 := Tryz.func118.trans (congrArg some (by kernel_rfl))
  f317 := Tryz.func131.trans (congrArg some (by kernel_rfl))
  f318 := Tryz.func137.trans (congrArg some (by kernel_rfl))
  f319 := Tryz.func138.trans (congrArg some (by kernel_rfl))
  f320 := Tryz.func139.trans (congrArg some (by kernel_rfl))
  f337 := Tryz.func171.trans (congrArg some (by kernel_rfl))
  f338 := Tryz.func172.trans (congrArg some (by kernel_rfl))
  t0 := Tryz.underlying0
  a0 := Tryz.isAgg0
  z0 := Tryz.sizeOf0
  v0 := Tryz.zeroValue0
  t2 := Tryz.underlying2
  a2 := Tryz.isAgg2
  z2 := Tryz.sizeOf2
  v2 := Tryz.zeroValue2
  t3 := Tryz.underlying3
  a3 := Tryz.isAgg3
  z3 := Tryz.sizeOf3
  v3 := Tryz.zeroValue3
  t4 := Tryz.underlying4
  a4 := Tryz.isAgg4
  z4 := Tryz.sizeOf4
  v4 := Tryz.zeroValue4
  t5 := Tryz.underlying5
  a5 := Tryz.isAgg5
  z5 := Tryz.sizeOf5
  v5 := Tryz.zeroValue5
  t9 := Tryz.underlying9
  a9 := Tryz.isAgg9
  z9 := Tryz.sizeOf9
  v9 := Tryz.zeroValue9
  t20 := Tryz.underlying20
  a20 := Tryz.isAgg20
  z20 := Tryz.sizeOf20
  v20 := Tryz.zeroValue20
  t37 := Tryz.underlying42
  a37 := Tryz.isAgg42
  z37 := Tryz.sizeOf42
  v37 := Tryz.zeroValue42
  t46 := Tryz.underlying135
  a46 := Tryz.isAgg135
  z46 := Tryz.sizeOf135
  v46 := Tryz.zeroValue135
  t51 := Tryz.underlying137
  a51 := Tryz.isAgg137
  z51 := Tryz.sizeOf137
  v51 := Tryz.zeroValue137
  t53 := Tryz.underlying29
  a53 := Tryz.isAgg29
  z53 := Tryz.sizeOf29
  v53 := Tryz.zeroValue29
  t171 := Tryz.underlying244
  a171 := Tryz.isAgg244
  z171 := Tryz.sizeOf244
  v171 := Tryz.zeroValue244
  t173 := Tryz.underlying247
  a173 := Tryz.isAgg247
  z173 := Tryz.sizeOf247
  v173 := Tryz.zeroValue247
  t212 := Tryz.underlying280
  a212 := Tryz.isAgg280
  z212 := Tryz.sizeOf280
  v212 := Tryz.zeroValue280
  t213 := Tryz.underlying281
  a213 := Tryz.isAgg281
  z213 := Tryz.sizeOf281
  t232 := Tryz.underlying258
  a232 := Tryz.isAgg258
  z232 := Tryz.sizeOf258
  v232 := Tryz.zeroValue258
  t233 := Tryz.underlying337
  a233 := Tryz.isAgg337
  z233 := Tryz.sizeOf337
  v233 := Tryz.zeroValue337
  g17 := by kernel_rfl
  g18 := by kernel_rfl
  g19 := by kernel_rfl }
open Go.RowKit Go.Sort Go.Lib in
/-- THE ROAD WITHOUT THE TABLE: 0 <= i < 100: NO PREMISE ON THE WORLD, AND THE WORLD IS AS IT WAS: a row that keeps its argument in that range need list no table ('laid = []'). (LAID: no walk: one application.) -/
theorem Tryz.strconv_Itoa_small (i : Nat) (hi : i < 100) (w : World) :
    Calls Tryz.prog 122 #[.int .i64 i] w fun e w' => e = .returned (.string ⟨(Lib.decDigits i).toArray⟩) ∧ w' = w := Any.strconv_Itoa_small Tryz.lays171 i hi w
def Tryz.laysM181_ren : Go.Shelf.Ren := ⟨fun | 181 => 201 | n => n, fun | 130 => 56 | 3 => 3 | 0 => 0 | 93 => 46 | 37 => 42 | 91 => 44 | 5 => 5 | n => n, fun | n => n⟩
theorem Tryz.laysM181 : Go.Proofs.LaysM.n181 Tryz.prog Tryz.laysM181_ren := {
  mixed := by kernel_rfl
  f181 := Tryz.func201.trans (congrArg some (by kernel_rfl))
  t0 := Tryz.underlying0
  a0 := Tryz.isAgg0
  z0 := Tryz.sizeOf0
  v0 := Tryz.zeroValue0
  t3 := Tryz.underlying3
  a3 := Tryz.isAgg3
  z3 := Tryz.sizeOf3
  v3 := Tryz.zeroValue3
  t37 := Tryz.underlying42
  a37 := Tryz.isAgg42
  z37 := Tryz.sizeOf42
  v37 := Tryz.zeroValue42
  t93 := Tryz.underlying46
  a93 := Tryz.isAgg46
  z93 := Tryz.sizeOf46
  v93 := Tryz.zeroValue46
  t130 := Tryz.underlying56
  a130 := Tryz.isAgg56
  z130 := Tryz.sizeOf56
  v130 := Tryz.zeroValue56
  t5 := Tryz.underlying5
  a5 := Tryz.isAgg5
  z5 := Tryz.sizeOf5
  v5 := Tryz.zeroValue5
  t91 := Tryz.underlying44
  a91 := Tryz.isAgg44
  z91 := Tryz.sizeOf44
  v91 := Tryz.zeroValue44
  i0 := by kernel_rfl
  i3 := by kernel_rfl
  i5 := by kernel_rfl
  i37 := by kernel_rfl
  i91 := by kernel_rfl
  i93 := by kernel_rfl
  i130 := by kernel_rfl }
open Go.RowKit in
/-- (*bytes.Buffer).Len: "Len returns the number of bytes of the unread portion of the buffer; b.Len() == len(b.Bytes()).": the world is as it was but for the count of draws (the statement has two reads: its order is drawn). (LAID: no walk: one application.) -/
theorem Tryz.Buffer_Len (B b : Nat) (bs : List Value) (w : World) (h : Lib.IsBuffer 46 5 B b bs w) :
    Calls Tryz.prog 201 #[.pointer (some ⟨b, 0, none⟩)] w fun e w' => e = .returned (.int .i64 bs.length) ∧ ∃ n, w' = w.drewN n := Any.Buffer_Len Tryz.laysM181 B b bs w h
def Tryz.laysM251_ren : Go.Shelf.Ren := ⟨fun | 251 => 209 | n => n, fun | 130 => 56 | 3 => 3 | 4 => 4 | 0 => 0 | 93 => 46 | 37 => 42 | 91 => 44 | 5 => 5 | n => n, fun | n => n⟩
theorem Tryz.laysM251 : Go.Proofs.LaysM.n251 Tryz.prog Tryz.laysM251_ren := {
  mixed := by kernel_rfl
  f251 := Tryz.func209.trans (congrArg some (by kernel_rfl))
  t0 := Tryz.underlying0
  a0 := Tryz.isAgg0
  z0 := Tryz.sizeOf0
  v0 := Tryz.zeroValue0
  t3 := Tryz.underlying3
  a3 := Tryz.isAgg3
  z3 := Tryz.sizeOf3
  v3 := Tryz.zeroValue3
  t4 := Tryz.underlying4
  a4 := Tryz.isAgg4
  z4 := Tryz.sizeOf4
  v4 := Tryz.zeroValue4
  t37 := Tryz.underlying42
  a37 := Tryz.isAgg42
  z37 := Tryz.sizeOf42
  v37 := Tryz.zeroValue42
  t93 := Tryz.underlying46
  a93 := Tryz.isAgg46
  z93 := Tryz.sizeOf46
  v93 := Tryz.zeroValue46
  t130 := Tryz.underlying56
  a130 := Tryz.isAgg56
  z130 := Tryz.sizeOf56
  v130 := Tryz.zeroValue56
  t5 := Tryz.underlying5
  a5 := Tryz.isAgg5
  z5 := Tryz.sizeOf5
  v5 := Tryz.zeroValue5
  t91 := Tryz.underlying44
  a91 := Tryz.isAgg44
  z91 := Tryz.sizeOf44
  v91 := Tryz.zeroValue44
  i0 := by kernel_rfl
  i3 := by kernel_rfl
  i4 := by kernel_rfl
  i5 := by kernel_rfl
  i37 := by kernel_rfl
  i91 := by kernel_rfl
  i93 := by kernel_rfl
  i130 := by kernel_rfl }
open Go.RowKit in
/-- (*bytes.Buffer).tryGrowByReslice: "tryGrowByReslice is an inlineable version of grow for the fast-case where the internal buffer only needs to be resliced. It returns the index where bytes should be written and whether it succeeded.": THERE IS ROOM: 'buf' is resliced to l + n. (LAID: no walk: one application.) -/
theorem Tryz.Buffer_tryGrow_room (b : Nat) (ao : Option Addr) (l cap n : Nat) (w : World) (c0 : w.cell? ⟨b, 0, none⟩ = some (.slice ao l cap)) (f0 : w.frozen? ⟨b, 0, none⟩ = false) (hlc : l ≤ cap) (hcap : cap ≤ maxLen) (hn : n ≤ cap - l) :
    Calls Tryz.prog 209 #[.pointer (some ⟨b, 0, none⟩), .int .i64 n] w fun e w' => e = .returned (.tuple #[.int .i64 l, .bool true]) ∧ w' = w.setCell ⟨b, 0, none⟩ (.slice ao (l + n) cap) := Any.Buffer_tryGrow_room Tryz.laysM251 b ao l cap n w c0 f0 hlc hcap hn
open Go.RowKit in
/-- .. THERE IS NONE: nothing turns. (LAID: no walk: one application.) -/
theorem Tryz.Buffer_tryGrow_none (b : Nat) (ao : Option Addr) (l cap n : Nat) (w : World) (c0 : w.cell? ⟨b, 0, none⟩ = some (.slice ao l cap)) (hlc : l ≤ cap) (hcap : cap ≤ maxLen) (hn : cap - l < n) :
    Calls Tryz.prog 209 #[.pointer (some ⟨b, 0, none⟩), .int .i64 n] w fun e w' => e = .returned (.tuple #[.int .i64 0, .bool false]) ∧ w' = w := Any.Buffer_tryGrow_none Tryz.laysM251 b ao l cap n w c0 hlc hcap hn
def Tryz.laysM324_ren : Go.Shelf.Ren := ⟨fun | 324 => 211 | n => n, fun | 20 => 20 | 4 => 4 | 75 => 48 | 0 => 0 | 80 => 59 | 9 => 9 | n => n, fun | 14 => 19 | n => n⟩
theorem Tryz.laysM324 : Go.Proofs.LaysM.n324 Tryz.prog Tryz.laysM324_ren := {
  mixed := by kernel_rfl
  f324 := Tryz.func211.trans (congrArg some (by kernel_rfl))
  t0 := Tryz.underlying0
  a0 := Tryz.isAgg0
  z0 := Tryz.sizeOf0
  v0 := Tryz.zeroValue0
  t4 := Tryz.underlying4
  a4 := Tryz.isAgg4
  z4 := Tryz.sizeOf4
  v4 := Tryz.zeroValue4
  t20 := Tryz.underlying20
  a20 := Tryz.isAgg20
  z20 := Tryz.sizeOf20
  v20 := Tryz.zeroValue20
  t75 := Tryz.underlying48
  a75 := Tryz.isAgg48
  z75 := Tryz.sizeOf48
  v75 := Tryz.zeroValue48
  g14 := by kernel_rfl
  t9 := Tryz.underlying9
  a9 := Tryz.isAgg9
  z9 := Tryz.sizeOf9
  v9 := Tryz.zeroValue9
  t80 := Tryz.underlying59
  a80 := Tryz.isAgg59
  z80 := Tryz.sizeOf59
  v80 := Tryz.zeroValue59
  i0 := by kernel_rfl
  i4 := by kernel_rfl
  i9 := by kernel_rfl
  i20 := by kernel_rfl
  i75 := by kernel_rfl
  i80 := by kernel_rfl
  m14 := by kernel_rfl }
theorem Tryz.growSlice_catch_idle (w : World) :
    CallsD Tryz.prog 211 #[] .returning w fun e u' w' => e = .returned (.tuple #[]) ∧ u' = .returning ∧ w' = w := Any.growSlice_catch_idle Tryz.laysM324 w
def Tryz.laysM290_ren : Go.Shelf.Ren := ⟨fun | 290 => 210 | 324 => 211 | n => n, fun | 37 => 42 | 3 => 3 | 0 => 0 | 4 => 4 | 20 => 20 | 75 => 48 | 5 => 5 | 80 => 59 | 9 => 9 | n => n, fun | 14 => 19 | n => n⟩
theorem Tryz.laysM290 : Go.Proofs.LaysM.n290 Tryz.prog Tryz.laysM290_ren := {
  mixed := by kernel_rfl
  f290 := Tryz.func210.trans (congrArg some (by kernel_rfl))
  f324 := Tryz.func211.trans (congrArg some (by kernel_rfl))
  t0 := Tryz.underlying0
  a0 := Tryz.isAgg0
  z0 := Tryz.sizeOf0
  v0 := Tryz.zeroValue0
  t3 := Tryz.underlying3
  a3 := Tryz.isAgg3
  z3 := Tryz.sizeOf3
  v3 := Tryz.zeroValue3
  t4 := Tryz.underlying4
  a4 := Tryz.isAgg4
  z4 := Tryz.sizeOf4
  v4 := Tryz.zeroValue4
  t20 := Tryz.underlying20
  a20 := Tryz.isAgg20
  z20 := Tryz.sizeOf20
  v20 := Tryz.zeroValue20
  t37 := Tryz.underlying42
  a37 := Tryz.isAgg42
  z37 := Tryz.sizeOf42
  v37 := Tryz.zeroValue42
  t75 := Tryz.underlying48
  a75 := Tryz.isAgg48
  z75 := Tryz.sizeOf48
  v75 := Tryz.zeroValue48
  g14 := by kernel_rfl
  t5 := Tryz.underlying5
  a5 := Tryz.isAgg5
  z5 := Tryz.sizeOf5
  v5 := Tryz.zeroValue5
  t9 := Tryz.underlying9
  a9 := Tryz.isAgg9
  z9 := Tryz.sizeOf9
  v9 := Tryz.zeroValue9
  t80 := Tryz.underlying59
  a80 := Tryz.isAgg59
  z80 := Tryz.sizeOf59
  v80 := Tryz.zeroValue59
  i0 := by kernel_rfl
  i3 := by kernel_rfl
  i4 := by kernel_rfl
  i5 := by kernel_rfl
  i9 := by kernel_rfl
  i20 := by kernel_rfl
  i37 := by kernel_rfl
  i75 := by kernel_rfl
  i80 := by kernel_rfl
  m14 := by kernel_rfl }
open Go.RowKit in
/-- bytes.growSlice: "growSlice grows b by n, preserving the original content of b.": OF A SLICE THAT LIES AT THE HEAD OF A ROW: a new row, number 'w.heap.size': it begins with b's l cells; its capacity has room for n more; whatever lay below is as it was. (LAID: no walk: one application.) -/
theorem Tryz.bytes_growSlice_row (g l c n : Nat) (cur : Array Value) (w : World) (hg : w.heap[g]? = some (.cells cur 5 (0, 0))) (hcs : cur.size = c) (hlc : l ≤ c) (hn : 1 ≤ n) (hlim : l + n ≤ 140737488355328) (hc2 : c ≤ 140737488355328) (h1 : ∀ v ∈ cur.toList.take l, v.oneCell' = true) :
    Calls Tryz.prog 210 #[.slice (some ⟨g, 0, none⟩) l c, .int .i64 n] w fun e w' => ∃ cap2 cells, e = .returned (.slice (some ⟨w.heap.size, 0, none⟩) l cap2) ∧ w'.heap[w.heap.size]? = some (.cells cells 5 (0, 0)) ∧
      cells.size = cap2 ∧ cells.toList.take l = cur.toList.take l ∧ l + n ≤ cap2 ∧ cap2 ≤ maxLen ∧ Below w.heap.size w w' := Any.bytes_growSlice_row Tryz.laysM290 g l c n cur w hg hcs hlc hn hlim hc2 h1
open Go.RowKit in
/-- .. OF THE NIL SLICE: a new row with room for n. (LAID: no walk: one application.) -/
theorem Tryz.bytes_growSlice_nil (n : Nat) (w : World) (hn : 1 ≤ n) (hlim : n ≤ 140737488355328) :
    Calls Tryz.prog 210 #[.slice none 0 0, .int .i64 n] w fun e w' => ∃ cap2 cells, e = .returned (.slice (some ⟨w.heap.size, 0, none⟩) 0 cap2) ∧ w'.heap[w.heap.size]? = some (.cells cells 5 (0, 0)) ∧
      cells.size = cap2 ∧ n ≤ cap2 ∧ cap2 ≤ maxLen ∧ Below w.heap.size w w' := Any.bytes_growSlice_nil Tryz.laysM290 n w hn hlim
def Tryz.laysM182_ren : Go.Shelf.Ren := ⟨fun | 182 => 17 | n => n, fun | 130 => 56 | 9 => 9 | 4 => 4 | 0 => 0 | 93 => 46 | 37 => 42 | 3 => 3 | 91 => 44 | 5 => 5 | n => n, fun | n => n⟩
theorem Tryz.laysM182 : Go.Proofs.LaysM.n182 Tryz.prog Tryz.laysM182_ren := {
  mixed := by kernel_rfl
  f182 := Tryz.func17.trans (congrArg some (by kernel_rfl))
  t0 := Tryz.underlying0
  a0 := Tryz.isAgg0
  z0 := Tryz.sizeOf0
  v0 := Tryz.zeroValue0
  t3 := Tryz.underlying3
  a3 := Tryz.isAgg3
  z3 := Tryz.sizeOf3
  v3 := Tryz.zeroValue3
  t4 := Tryz.underlying4
  a4 := Tryz.isAgg4
  z4 := Tryz.sizeOf4
  v4 := Tryz.zeroValue4
  t9 := Tryz.underlying9
  a9 := Tryz.isAgg9
  z9 := Tryz.sizeOf9
  v9 := Tryz.zeroValue9
  t37 := Tryz.underlying42
  a37 := Tryz.isAgg42
  z37 := Tryz.sizeOf42
  v37 := Tryz.zeroValue42
  t93 := Tryz.underlying46
  a93 := Tryz.isAgg46
  z93 := Tryz.sizeOf46
  v93 := Tryz.zeroValue46
  t130 := Tryz.underlying56
  a130 := Tryz.isAgg56
  z130 := Tryz.sizeOf56
  v130 := Tryz.zeroValue56
  t5 := Tryz.underlying5
  a5 := Tryz.isAgg5
  z5 := Tryz.sizeOf5
  v5 := Tryz.zeroValue5
  t91 := Tryz.underlying44
  a91 := Tryz.isAgg44
  z91 := Tryz.sizeOf44
  v91 := Tryz.zeroValue44
  i0 := by kernel_rfl
  i3 := by kernel_rfl
  i4 := by kernel_rfl
  i5 := by kernel_rfl
  i9 := by kernel_rfl
  i37 := by kernel_rfl
  i91 := by kernel_rfl
  i93 := by kernel_rfl
  i130 := by kernel_rfl }
open Go.RowKit in
/-- (*bytes.Buffer).String: "String returns the contents of the unread portion of the buffer as a string.": THE BYTES THAT WERE WRITTEN. The world is as it was but for the count of draws (the statement has two reads: its order is drawn). (LAID: no walk: one application.) -/
theorem Tryz.Buffer_String (B b : Nat) (l : List UInt8) (w : World) (h : Lib.IsBuffer 46 5 B b (Lib.byteCells l) w) :
    Calls Tryz.prog 17 #[.pointer (some ⟨b, 0, none⟩)] w fun e w' => e = .returned (.string ⟨l.toArray⟩) ∧ ∃ n, w' = w.drewN n := Any.Buffer_String Tryz.laysM182 B b l w h
def Tryz.laysM288_ren : Go.Shelf.Ren := ⟨fun | 288 => 104 | 283 => 115 | 284 => 116 | 285 => 117 | 286 => 118 | 129 => 128 | 317 => 131 | 318 => 137 | 319 => 138 | 320 => 139 | 337 => 171 | 338 => 172 | n => n, fun | 37 => 42 | 53 => 29 | 3 => 3 | 4 => 4 | 9 => 9 | 171 => 244 | 0 => 0 | 173 => 247 | 212 => 280 | 51 => 137 | 5 => 5 | 20 => 20 | 213 => 281 | 46 => 135 | 232 => 258 | 233 => 337 | n => n, fun | 17 => 7 | 18 => 15 | 19 => 16 | n => n⟩
theorem Tryz.laysM288 : Go.Proofs.LaysM.n288 Tryz.prog Tryz.laysM288_ren := {
  mixed := by kernel_rfl
  f129 := Tryz.func128.trans (congrArg some (by kernel_rfl))
  f283 := Tryz.func115.trans (congrArg some (by kernel_rfl))
  f284 := Tryz.func116.trans (congrArg some (by kernel_rfl))
  f285 := Tryz.func117.trans (congrArg some (by kernel_rfl))
  f286 := Tryz.func118.trans (congrArg some (by kernel_rfl))
  f288 := Tryz.func104.trans (congrArg some (by kernel_rfl))
  f317 := Tryz.func131.trans (congrArg some (by kernel_rfl))
  f318 := Tryz.func137.trans (congrArg some (by kernel_rfl))
  f319 := Tryz.func138.trans (congrArg some (by kernel_rfl))
  f320 := Tryz.func139.trans (congrArg some (by kernel_rfl))
  f337 := Tryz.func171.trans (congrArg some (by kernel_rfl))
  f338 := Tryz.func172.trans (congrArg some (by kernel_rfl))
  t0 := Tryz.underlying0
  a0 := Tryz.isAgg0
  z0 := Tryz.sizeOf0
  v0 := Tryz.zeroValue0
  t3 := Tryz.underlying3
  a3 := Tryz.isAgg3
  z3 := Tryz.sizeOf3
  v3 := Tryz.zeroValue3
  t4 := Tryz.underlying4
  a4 := Tryz.isAgg4
  z4 := Tryz.sizeOf4
  v4 := Tryz.zeroValue4
  t5 := Tryz.underlying5
  a5 := Tryz.isAgg5
  z5 := Tryz.sizeOf5
  v5 := Tryz.zeroValue5
  t9 := Tryz.underlying9
  a9 := Tryz.isAgg9
  z9 := Tryz.sizeOf9
  v9 := Tryz.zeroValue9
  t20 := Tryz.underlying20
  a20 := Tryz.isAgg20
  z20 := Tryz.sizeOf20
  v20 := Tryz.zeroValue20
  t37 := Tryz.underlying42
  a37 := Tryz.isAgg42
  z37 := Tryz.sizeOf42
  v37 := Tryz.zeroValue42
  t46 := Tryz.underlying135
  a46 := Tryz.isAgg135
  z46 := Tryz.sizeOf135
  v46 := Tryz.zeroValue135
  t51 := Tryz.underlying137
  a51 := Tryz.isAgg137
  z51 := Tryz.sizeOf137
  v51 := Tryz.zeroValue137
  t53 := Tryz.underlying29
  a53 := Tryz.isAgg29
  z53 := Tryz.sizeOf29
  v53 := Tryz.zeroValue29
  t171 := Tryz.underlying244
  a171 := Tryz.isAgg244
  z171 := Tryz.sizeOf244
  v171 := Tryz.zeroValue244
  t173 := Tryz.underlying247
  a173 := Tryz.isAgg247
  z173 := Tryz.sizeOf247
  v173 := Tryz.zeroValue247
  t212 := Tryz.underlying280
  a212 := Tryz.isAgg280
  z212 := Tryz.sizeOf280
  v212 := Tryz.zeroValue280
  t213 := Tryz.underlying281
  a213 := Tryz.isAgg281
  z213 := Tryz.sizeOf281
  t232 := Tryz.underlying258
  a232 := Tryz.isAgg258
  z232 := Tryz.sizeOf258
  v232 := Tryz.zeroValue258
  t233 := Tryz.underlying337
  a233 := Tryz.isAgg337
  z233 := Tryz.sizeOf337
  v233 := Tryz.zeroValue337
  g17 := by kernel_rfl
  g18 := by kernel_rfl
  g19 := by kernel_rfl
  i0 := by kernel_rfl
  i3 := by kernel_rfl
  i4 := by kernel_rfl
  i5 := by kernel_rfl
  i9 := by kernel_rfl
  i20 := by kernel_rfl
  i37 := by kernel_rfl
  i46 := by kernel_rfl
  i51 := by kernel_rfl
  i53 := by kernel_rfl
  i171 := by kernel_rfl
  i173 := by kernel_rfl
  i212 := by kernel_rfl
  i232 := by kernel_rfl
  i233 := by kernel_rfl
  m17 := by kernel_rfl
  m18 := by kernel_rfl
  m19 := by kernel_rfl }
open Go.RowKit Go.Sort Go.Lib in
/-- internal/strconv.AppendUint(dst, i, 10), i BELOW 100: WHAT COMES BACK OWNS dst's CELLS AND, BEHIND THEM, i's DECIMAL NUMERAL. No table is read. Below the call's own blocks nothing has turned. (LAID: no walk: one application.) -/
theorem Tryz.internal_strconv_AppendUint_10_small (B n u : Nat) (hu : u < 100) (sv : Value) (xs : List Value) (w : World) (hown : w.ownsRow B 5 1 sv n xs) (hBw : B ≤ w.heap.size) (hlim : n + 20 ≤ 140737488355328) :
    Calls Tryz.prog 104 #[sv, .int .u64 u, .int .i64 10] w fun e w' => ∃ v', e = .returned v' ∧ w'.ownsRow B 5 1 v' (n + (Lib.decDigits u).length) (xs ++ Lib.byteCells (Lib.decDigits u)) ∧ Below B w w' ∧ Lib.OthersKept 5 none w w' := Any.internal_strconv_AppendUint_10_small Tryz.laysM288 B n u hu sv xs w hown hBw hlim
open Go.RowKit Go.Sort Go.Lib in
/-- internal/strconv.AppendUint(dst, i, 10), i FROM 100 ON: likewise; the digits are laid in an array of the call's own and appended. (LAID: no walk: one application.) -/
theorem Tryz.internal_strconv_AppendUint_10_big (B n u : Nat) (hu : 100 ≤ u) (hu64 : u < 18446744073709551616) (sv : Value) (xs : List Value) (w : World) (hown : w.ownsRow B 5 1 sv n xs) (hBw : B ≤ w.heap.size) (hlim : n + 20 ≤ 140737488355328) (htab : Lib.TabIs Tryz.prog w "internal/strconv.uint64pow10" .u64 Lib.pow10Tab) :
    Calls Tryz.prog 104 #[sv, .int .u64 u, .int .i64 10] w fun e w' => ∃ v', e = .returned v' ∧ w'.ownsRow B 5 1 v' (n + (Lib.decDigits u).length) (xs ++ Lib.byteCells (Lib.decDigits u)) ∧ Below B w w' ∧ Lib.OthersKept 5 none w w' := Any.internal_strconv_AppendUint_10_big Tryz.laysM288 B n u hu hu64 sv xs w hown hBw hlim htab
def Tryz.lays197_ren : Go.Shelf.Ren := ⟨fun | 197 => 257 | 260 => 259 | n => n, fun | 9 => 9 | 21 => 21 | 3 => 3 | 4 => 4 | 5 => 5 | 105 => 367 | 119 => 372 | 0 => 0 | 46 => 135 | 139 => 375 | 138 => 374 | n => n, fun | 3 => 23 | 4 => 24 | n => n⟩
theorem Tryz.lays197 : Go.Proofs.Lays.n197 Tryz.prog Tryz.lays197_ren := {
  mixed := by kernel_rfl
  f197 := Tryz.func257.trans (congrArg some (by kernel_rfl))
  f260 := Tryz.func259.trans (congrArg some (by kernel_rfl))
  t0 := Tryz.underlying0
  a0 := Tryz.isAgg0
  z0 := Tryz.sizeOf0
  v0 := Tryz.zeroValue0
  t3 := Tryz.underlying3
  a3 := Tryz.isAgg3
  z3 := Tryz.sizeOf3
  v3 := Tryz.zeroValue3
  t4 := Tryz.underlying4
  a4 := Tryz.isAgg4
  z4 := Tryz.sizeOf4
  v4 := Tryz.zeroValue4
  t5 := Tryz.underlying5
  a5 := Tryz.isAgg5
  z5 := Tryz.sizeOf5
  v5 := Tryz.zeroValue5
  t9 := Tryz.underlying9
  a9 := Tryz.isAgg9
  z9 := Tryz.sizeOf9
  v9 := Tryz.zeroValue9
  t21 := Tryz.underlying21
  a21 := Tryz.isAgg21
  z21 := Tryz.sizeOf21
  v21 := Tryz.zeroValue21
  t46 := Tryz.underlying135
  a46 := Tryz.isAgg135
  z46 := Tryz.sizeOf135
  v46 := Tryz.zeroValue135
  t105 := Tryz.underlying367
  a105 := Tryz.isAgg367
  z105 := Tryz.sizeOf367
  v105 := Tryz.zeroValue367
  t119 := Tryz.underlying372
  a119 := Tryz.isAgg372
  z119 := Tryz.sizeOf372
  t138 := Tryz.underlying374
  a138 := Tryz.isAgg374
  z138 := Tryz.sizeOf374
  v138 := Tryz.zeroValue374
  t139 := Tryz.underlying375
  a139 := Tryz.isAgg375
  z139 := Tryz.sizeOf375
  v139 := Tryz.zeroValue375
  g3 := by kernel_rfl
  g4 := by kernel_rfl }
open Go.RowKit Go.Lib in
/-- unicode/utf8.DecodeRuneInString: "DecodeRuneInString is like DecodeRune but its input is a string.": ("DecodeRune unpacks the first UTF-8 encoding in p and returns the rune and its width in bytes."): WHERE s BEGINS WITH AN ASCII BYTE x: (x, 1). (LAID: no walk: one application.) -/
theorem Tryz.utf8_DecodeRuneInString_ascii (s : ByteArray) (x : UInt8) (w : World) (h0 : s.data.toList[0]? = some x) (hx : x.toNat < 128) :
    Calls Tryz.prog 257 #[.string s] w fun e w' => e = .returned (.tuple #[.int .i32 x.toNat, .int .i64 1]) ∧ w' = w := Any.utf8_DecodeRuneInString_ascii Tryz.lays197 s x w h0 hx
def Tryz.lays264_ren : Go.Shelf.Ren := ⟨fun | 264 => 181 | n => n, fun | 53 => 29 | 46 => 135 | n => n, fun | n => n⟩
theorem Tryz.lays264 : Go.Proofs.Lays.n264 Tryz.prog Tryz.lays264_ren := {
  mixed := by kernel_rfl
  f264 := Tryz.func181.trans (congrArg some (by kernel_rfl))
  t46 := Tryz.underlying135
  a46 := Tryz.isAgg135
  z46 := Tryz.sizeOf135
  v46 := Tryz.zeroValue135
  t53 := Tryz.underlying29
  a53 := Tryz.isAgg29
  z53 := Tryz.sizeOf29
  v53 := Tryz.zeroValue29 }
open Go.RowKit Go.Lib in
theorem Tryz.bits_Mul64 (x y : Nat) (hx : x < 18446744073709551616) (hy : y < 18446744073709551616) (w : World) :
    Calls Tryz.prog 181 #[.int .u64 x, .int .u64 y] w fun e w' => e = .returned (.tuple #[.int .u64 ((x * y / 18446744073709551616 : Nat) : Int), .int .u64 ((x * y % 18446744073709551616 : Nat) : Int)]) ∧ w' = w := Any.bits_Mul64 Tryz.lays264 x y hx hy w
def Tryz.lays260_ren : Go.Shelf.Ren := ⟨fun | 260 => 259 | n => n, fun | 9 => 9 | 21 => 21 | 3 => 3 | 4 => 4 | 5 => 5 | 119 => 372 | 0 => 0 | 46 => 135 | 139 => 375 | 138 => 374 | n => n, fun | 3 => 23 | 4 => 24 | n => n⟩
theorem Tryz.lays260 : Go.Proofs.Lays.n260 Tryz.prog Tryz.lays260_ren := {
  mixed := by kernel_rfl
  f260 := Tryz.func259.trans (congrArg some (by kernel_rfl))
  t0 := Tryz.underlying0
  a0 := Tryz.isAgg0
  z0 := Tryz.sizeOf0
  v0 := Tryz.zeroValue0
  t3 := Tryz.underlying3
  a3 := Tryz.isAgg3
  z3 := Tryz.sizeOf3
  v3 := Tryz.zeroValue3
  t4 := Tryz.underlying4
  a4 := Tryz.isAgg4
  z4 := Tryz.sizeOf4
  v4 := Tryz.zeroValue4
  t5 := Tryz.underlying5
  a5 := Tryz.isAgg5
  z5 := Tryz.sizeOf5
  v5 := Tryz.zeroValue5
  t9 := Tryz.underlying9
  a9 := Tryz.isAgg9
  z9 := Tryz.sizeOf9
  v9 := Tryz.zeroValue9
  t21 := Tryz.underlying21
  a21 := Tryz.isAgg21
  z21 := Tryz.sizeOf21
  v21 := Tryz.zeroValue21
  t46 := Tryz.underlying135
  a46 := Tryz.isAgg135
  z46 := Tryz.sizeOf135
  v46 := Tryz.zeroValue135
  t119 := Tryz.underlying372
  a119 := Tryz.isAgg372
  z119 := Tryz.sizeOf372
  t138 := Tryz.underlying374
  a138 := Tryz.isAgg374
  z138 := Tryz.sizeOf374
  v138 := Tryz.zeroValue374
  t139 := Tryz.underlying375
  a139 := Tryz.isAgg375
  z139 := Tryz.sizeOf375
  v139 := Tryz.zeroValue375
  g3 := by kernel_rfl
  g4 := by kernel_rfl }
open Go.RowKit Go.Lib in
theorem Tryz.utf8_decodeRuneInStringSlow (s : ByteArray) (w : World) (hT : Lib.Utf8Tabs 23 24 w) :
    Calls Tryz.prog 259 #[.string s] w fun e w' => e = .returned (.tuple #[.int .i32 (Lib.decodeGo s).1, .int .i64 (Lib.decodeGo s).2]) ∧ Below w.heap.size w w' := Any.utf8_decodeRuneInStringSlow Tryz.lays260 s w hT
open Go.RowKit Go.Lib in
/-- **unicode/utf8.DecodeRuneInString AT EVERY STRING.** (LAID: no walk: one application.) -/
theorem Tryz.utf8_DecodeRuneInString (s : ByteArray) (w : World) (hT : Lib.Utf8Tabs 23 24 w) :
    Calls Tryz.prog 257 #[.string s] w fun e w' => e = .returned (.tuple #[.int .i32 (Lib.decodeGo s).1, .int .i64 (Lib.decodeGo s).2]) ∧ Below w.heap.size w w' := Any.utf8_DecodeRuneInString Tryz.lays197 s w hT
end Go.Proofs
