/-
  DERIVED: THE SHELF's CONTRACTS AT THIS DUMP, IN PLAIN WORDS (tools/lay-plain.mjs out of 'TryzVshelf.lean', which tools/lay-shelf.mjs wrote): THE SAME DECLARATIONS UNDER THE SAME YtaaogjhaokaggaaGreatDoorS: 'import', 'namespace', 'open', 'def', 'theorem' AND NOTHING ELSE: no command of the shelf's: FOR A HAND-IN. Each laying: the table of numbers ('.._ren') and one theorem, a field a fact of the dump's own or the kernel's comparison; each contract: ONE APPLICATION.
-/
import Derived.Test.YtaaogjhaokaggaaGreatDoorProg
import Derived.Shelf.Unicode.ValidAny
namespace Go.Proofs
open Go.Shelf
def Tryz.lays196_ren : Go.Shelf.Ren := ⟨fun | 196 => 99 | 259 => 130 | n => n, fun | 9 => 9 | 4 => 4 | 3 => 3 | 5 => 5 | 12 => 12 | 119 => 169 | 0 => 0 | 46 => 166 | 139 => 172 | 138 => 171 | 53 => 22 | n => n, fun | 3 => 2 | 4 => 3 | n => n⟩
theorem Tryz.lays196 : Go.Proofs.Lays.n196 Tryz.prog Tryz.lays196_ren := {
  mixed := by kernel_rfl
  f196 := Tryz.func99.trans (congrArg some (by kernel_rfl))
  f259 := Tryz.func130.trans (congrArg some (by kernel_rfl))
  t0 := Tryz.underlying0
  a0 := Tryz.isAgg0
  z0 := Tryz.sizeOf0
  v0 := Tryz.zeroValue0
  t3 := Tryz.underlying3
  a3 := Tryz.isAgg3
  z3 := Tryz.sizeOf3
  v3 := Tryz.zeroValue3
  t4 := Tryz.underlying4
  a4 := Tryz.isAgg4
  z4 := Tryz.sizeOf4
  v4 := Tryz.zeroValue4
  t5 := Tryz.underlying5
  a5 := Tryz.isAgg5
  z5 := Tryz.sizeOf5
  v5 := Tryz.zeroValue5
  t9 := Tryz.underlying9
  a9 := Tryz.isAgg9
  z9 := Tryz.sizeOf9
  v9 := Tryz.zeroValue9
  t12 := Tryz.underlying12
  a12 := Tryz.isAgg12
  z12 := Tryz.sizeOf12
  v12 := Tryz.zeroValue12
  t46 := Tryz.underlying166
  a46 := Tryz.isAgg166
  z46 := Tryz.sizeOf166
  v46 := Tryz.zeroValue166
  t53 := Tryz.underlying22
  a53 := Tryz.isAgg22
  z53 := Tryz.sizeOf22
  v53 := Tryz.zeroValue22
  t119 := Tryz.underlying169
  a119 := Tryz.isAgg169
  z119 := Tryz.sizeOf169
  t138 := Tryz.underlying171
  a138 := Tryz.isAgg171
  z138 := Tryz.sizeOf171
  v138 := Tryz.zeroValue171
  t139 := Tryz.underlying172
  a139 := Tryz.isAgg172
  z139 := Tryz.sizeOf172
  v139 := Tryz.zeroValue172
  g3 := by kernel_rfl
  g4 := by kernel_rfl }
end Go.Proofs
