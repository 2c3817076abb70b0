/-
  DERIVED. GIVEN WITH THE SEED: THE PROGRAM's TIES (one call each: nine closed facts by the kernel) AND EACH ROW's TIE, after the 31st guide's Derived/Test/Toyas{Tie, Card}.lean. No idea stands in it: it is a product of the set-up. Laid BY PROGRAM, IN A SANDBOX (cutbox-door.mjs). By AI agents, Wed Nov 11 2026. No macro, syntax, notation, axiom, sorry.
-/
import Derived.Test.YtaaogjhaokaggaaGreatDoorRows
import Derived.LaidByTextLater
import Derived.SevenTiedAt
import Derived.LaidSub
import Derived.LaidOnce
namespace Go.Proofs.YtaaogjhaokaggaaGreatDoor
open Go
set_option maxRecDepth 100000
theorem seatTie1 : Tryz.prog.laidByTextLater [("math/bits.deBruijn32tab", Rows.laid_math_bits_deBruijn32tab), ("math/bits.deBruijn64tab", Rows.laid_math_bits_deBruijn64tab), ("internal/strconv.optimize", Rows.laid_internal_strconv_optimize), ("internal/strconv.uint64pow10", Rows.laid_internal_strconv_uint64pow10), ("unicode/utf8.acceptRanges", Rows.laid_unicode_utf8_acceptRanges), ("pub-teleprinter/pub/lineprotocol/lineprotocol.ErrValueOutOfRange", Rows.laid_pub_teleprinter_pub_lineprotocol_lineprotocol_ErrValueOutOfRange)] [.data, .data, .data, .data, .data, .sentinel] true :=
  Program.laidByTextLater_by_one 57 8 65 (by kernel_rfl) (by kernel_rfl) (by kernel_rfl) (by kernel_rfl) (by kernel_rfl) (by kernel_rfl) (fun _ _ => by kernel_rfl)
theorem pin_laid_internal_strconv_leftcheats : Tryz.pinned.checked.prog.pinnedFits "internal/strconv.leftcheats" = true := by kernel_rfl
theorem pin_laid_internal_strconv_pow10Tab : Tryz.pinned.checked.prog.pinnedFits "internal/strconv.pow10Tab" = true := by kernel_rfl
theorem pin_laid_strconv_isGraphic : Tryz.pinned.checked.prog.pinnedFits "strconv.isGraphic" = true := by kernel_rfl
theorem pin_laid_strconv_isNotPrint16 : Tryz.pinned.checked.prog.pinnedFits "strconv.isNotPrint16" = true := by kernel_rfl
theorem pin_laid_strconv_isNotPrint32 : Tryz.pinned.checked.prog.pinnedFits "strconv.isNotPrint32" = true := by kernel_rfl
theorem pin_laid_strconv_isPrint16 : Tryz.pinned.checked.prog.pinnedFits "strconv.isPrint16" = true := by kernel_rfl
theorem pin_laid_strconv_isPrint32 : Tryz.pinned.checked.prog.pinnedFits "strconv.isPrint32" = true := by kernel_rfl
theorem pin_laid_unicode_utf8_first : Tryz.pinned.checked.prog.pinnedFits "unicode/utf8.first" = true := by kernel_rfl
theorem noOwnUnsafe : Tryz.pinned.checked.prog.headLifts.contains "ownunsafe" = false := by kernel_rfl
theorem fits1 : Tryz.pinned.checked.prog.listedFits [("math/bits.deBruijn32tab", Rows.laid_math_bits_deBruijn32tab), ("math/bits.deBruijn64tab", Rows.laid_math_bits_deBruijn64tab), ("internal/strconv.optimize", Rows.laid_internal_strconv_optimize), ("internal/strconv.uint64pow10", Rows.laid_internal_strconv_uint64pow10), ("unicode/utf8.acceptRanges", Rows.laid_unicode_utf8_acceptRanges), ("internal/strconv.leftcheats", Rows.laid_internal_strconv_leftcheats), ("internal/strconv.pow10Tab", Rows.laid_internal_strconv_pow10Tab), ("strconv.isGraphic", Rows.laid_strconv_isGraphic), ("strconv.isNotPrint16", Rows.laid_strconv_isNotPrint16), ("strconv.isNotPrint32", Rows.laid_strconv_isNotPrint32), ("strconv.isPrint16", Rows.laid_strconv_isPrint16), ("strconv.isPrint32", Rows.laid_strconv_isPrint32), ("unicode/utf8.first", Rows.laid_unicode_utf8_first)] = true := by
  unfold Program.listedFits
  rw [noOwnUnsafe]
  kernel_rfl
theorem tie : Tryz.prog.laidByTextLater [("math/bits.deBruijn32tab", Rows.laid_math_bits_deBruijn32tab), ("math/bits.deBruijn64tab", Rows.laid_math_bits_deBruijn64tab), ("internal/strconv.optimize", Rows.laid_internal_strconv_optimize), ("internal/strconv.uint64pow10", Rows.laid_internal_strconv_uint64pow10), ("unicode/utf8.acceptRanges", Rows.laid_unicode_utf8_acceptRanges)] [.data, .data, .data, .data, .data] true :=
  Program.laidByTextLater.sub seatTie1 ["math/bits.deBruijn32tab", "math/bits.deBruijn64tab", "internal/strconv.optimize", "internal/strconv.uint64pow10", "unicode/utf8.acceptRanges"] (by kernel_rfl) (by kernel_rfl)
theorem fnValueEqualText_row_tie : Rows.fnValueEqualTextRow.laidByTextAt .later Tryz.pinned [.data, .data, .data, .data, .data, .pinned, .pinned, .pinned, .pinned, .pinned, .pinned, .pinned, .pinned] true :=
  OpenClaim.laidByTextAt_pinned rfl rfl tie rfl rfl rfl rfl (fun y hy _e => by
    simp only [Rows.fnValueEqualTextRow, List.zip_cons_cons, List.zip_nil_right, List.mem_cons, List.mem_nil_iff, or_false] at hy
    rcases hy with rfl | rfl | rfl | rfl | rfl | rfl | rfl | rfl | rfl | rfl | rfl | rfl | rfl
    · cases _e
    · cases _e
    · cases _e
    · cases _e
    · cases _e
    · exact ⟨pin_laid_internal_strconv_leftcheats, by kernel_rfl⟩
    · exact ⟨pin_laid_internal_strconv_pow10Tab, by kernel_rfl⟩
    · exact ⟨pin_laid_strconv_isGraphic, by kernel_rfl⟩
    · exact ⟨pin_laid_strconv_isNotPrint16, by kernel_rfl⟩
    · exact ⟨pin_laid_strconv_isNotPrint32, by kernel_rfl⟩
    · exact ⟨pin_laid_strconv_isPrint16, by kernel_rfl⟩
    · exact ⟨pin_laid_strconv_isPrint32, by kernel_rfl⟩
    · exact ⟨pin_laid_unicode_utf8_first, by kernel_rfl⟩) fits1
theorem fnValueText_row_tie : Rows.fnValueTextRow.laidByTextAt .later Tryz.pinned [.data, .data, .data, .data, .data, .pinned, .pinned, .pinned, .pinned, .pinned, .pinned, .pinned, .pinned] true :=
  OpenClaim.laidByTextAt_pinned rfl rfl tie rfl rfl rfl rfl (fun y hy _e => by
    simp only [Rows.fnValueTextRow, List.zip_cons_cons, List.zip_nil_right, List.mem_cons, List.mem_nil_iff, or_false] at hy
    rcases hy with rfl | rfl | rfl | rfl | rfl | rfl | rfl | rfl | rfl | rfl | rfl | rfl | rfl
    · cases _e
    · cases _e
    · cases _e
    · cases _e
    · cases _e
    · exact ⟨pin_laid_internal_strconv_leftcheats, by kernel_rfl⟩
    · exact ⟨pin_laid_internal_strconv_pow10Tab, by kernel_rfl⟩
    · exact ⟨pin_laid_strconv_isGraphic, by kernel_rfl⟩
    · exact ⟨pin_laid_strconv_isNotPrint16, by kernel_rfl⟩
    · exact ⟨pin_laid_strconv_isNotPrint32, by kernel_rfl⟩
    · exact ⟨pin_laid_strconv_isPrint16, by kernel_rfl⟩
    · exact ⟨pin_laid_strconv_isPrint32, by kernel_rfl⟩
    · exact ⟨pin_laid_unicode_utf8_first, by kernel_rfl⟩) fits1
theorem fits2 : Tryz.pinned.checked.prog.listedFits [("math/bits.deBruijn32tab", Rows.laid_math_bits_deBruijn32tab), ("math/bits.deBruijn64tab", Rows.laid_math_bits_deBruijn64tab), ("internal/strconv.optimize", Rows.laid_internal_strconv_optimize), ("internal/strconv.uint64pow10", Rows.laid_internal_strconv_uint64pow10), ("unicode/utf8.acceptRanges", Rows.laid_unicode_utf8_acceptRanges), ("pub-teleprinter/pub/lineprotocol/lineprotocol.ErrValueOutOfRange", Rows.laid_pub_teleprinter_pub_lineprotocol_lineprotocol_ErrValueOutOfRange), ("internal/strconv.leftcheats", Rows.laid_internal_strconv_leftcheats), ("internal/strconv.pow10Tab", Rows.laid_internal_strconv_pow10Tab), ("strconv.isGraphic", Rows.laid_strconv_isGraphic), ("strconv.isNotPrint16", Rows.laid_strconv_isNotPrint16), ("strconv.isNotPrint32", Rows.laid_strconv_isNotPrint32), ("strconv.isPrint16", Rows.laid_strconv_isPrint16), ("strconv.isPrint32", Rows.laid_strconv_isPrint32), ("unicode/utf8.first", Rows.laid_unicode_utf8_first)] = true := by
  unfold Program.listedFits
  rw [noOwnUnsafe]
  kernel_rfl
theorem tie2 : Tryz.prog.laidByTextLater [("math/bits.deBruijn32tab", Rows.laid_math_bits_deBruijn32tab), ("math/bits.deBruijn64tab", Rows.laid_math_bits_deBruijn64tab), ("internal/strconv.optimize", Rows.laid_internal_strconv_optimize), ("internal/strconv.uint64pow10", Rows.laid_internal_strconv_uint64pow10), ("unicode/utf8.acceptRanges", Rows.laid_unicode_utf8_acceptRanges), ("pub-teleprinter/pub/lineprotocol/lineprotocol.ErrValueOutOfRange", Rows.laid_pub_teleprinter_pub_lineprotocol_lineprotocol_ErrValueOutOfRange)] [.data, .data, .data, .data, .data, .sentinel] true :=
  Program.laidByTextLater.sub seatTie1 ["math/bits.deBruijn32tab", "math/bits.deBruijn64tab", "internal/strconv.optimize", "internal/strconv.uint64pow10", "unicode/utf8.acceptRanges", "pub-teleprinter/pub/lineprotocol/lineprotocol.ErrValueOutOfRange"] (by kernel_rfl) (by kernel_rfl)
theorem fnEncodeBuffer_row_tie : Rows.fnEncodeBufferRow.laidByTextAt .later Tryz.pinned [.data, .data, .data, .data, .data, .sentinel, .pinned, .pinned, .pinned, .pinned, .pinned, .pinned, .pinned, .pinned] true :=
  OpenClaim.laidByTextAt_pinned rfl rfl tie2 rfl rfl rfl rfl (fun y hy _e => by
    simp only [Rows.fnEncodeBufferRow, List.zip_cons_cons, List.zip_nil_right, List.mem_cons, List.mem_nil_iff, or_false] at hy
    rcases hy with rfl | rfl | rfl | rfl | rfl | rfl | rfl | rfl | rfl | rfl | rfl | rfl | rfl | rfl
    · cases _e
    · cases _e
    · cases _e
    · cases _e
    · cases _e
    · cases _e
    · exact ⟨pin_laid_internal_strconv_leftcheats, by kernel_rfl⟩
    · exact ⟨pin_laid_internal_strconv_pow10Tab, by kernel_rfl⟩
    · exact ⟨pin_laid_strconv_isGraphic, by kernel_rfl⟩
    · exact ⟨pin_laid_strconv_isNotPrint16, by kernel_rfl⟩
    · exact ⟨pin_laid_strconv_isNotPrint32, by kernel_rfl⟩
    · exact ⟨pin_laid_strconv_isPrint16, by kernel_rfl⟩
    · exact ⟨pin_laid_strconv_isPrint32, by kernel_rfl⟩
    · exact ⟨pin_laid_unicode_utf8_first, by kernel_rfl⟩) fits2
theorem fnEncodeClear_row_tie : Rows.fnEncodeClearRow.laidByTextAt .later Tryz.pinned [.data, .data, .data, .data, .data, .sentinel, .pinned, .pinned, .pinned, .pinned, .pinned, .pinned, .pinned, .pinned] true :=
  OpenClaim.laidByTextAt_pinned rfl rfl tie2 rfl rfl rfl rfl (fun y hy _e => by
    simp only [Rows.fnEncodeClearRow, List.zip_cons_cons, List.zip_nil_right, List.mem_cons, List.mem_nil_iff, or_false] at hy
    rcases hy with rfl | rfl | rfl | rfl | rfl | rfl | rfl | rfl | rfl | rfl | rfl | rfl | rfl | rfl
    · cases _e
    · cases _e
    · cases _e
    · cases _e
    · cases _e
    · cases _e
    · exact ⟨pin_laid_internal_strconv_leftcheats, by kernel_rfl⟩
    · exact ⟨pin_laid_internal_strconv_pow10Tab, by kernel_rfl⟩
    · exact ⟨pin_laid_strconv_isGraphic, by kernel_rfl⟩
    · exact ⟨pin_laid_strconv_isNotPrint16, by kernel_rfl⟩
    · exact ⟨pin_laid_strconv_isNotPrint32, by kernel_rfl⟩
    · exact ⟨pin_laid_strconv_isPrint16, by kernel_rfl⟩
    · exact ⟨pin_laid_strconv_isPrint32, by kernel_rfl⟩
    · exact ⟨pin_laid_unicode_utf8_first, by kernel_rfl⟩) fits2
theorem fnEncodeEach_row_tie : Rows.fnEncodeEachRow.laidByTextAt .later Tryz.pinned [.data, .data, .data, .data, .data, .sentinel, .pinned, .pinned, .pinned, .pinned, .pinned, .pinned, .pinned, .pinned] true :=
  OpenClaim.laidByTextAt_pinned rfl rfl tie2 rfl rfl rfl rfl (fun y hy _e => by
    simp only [Rows.fnEncodeEachRow, List.zip_cons_cons, List.zip_nil_right, List.mem_cons, List.mem_nil_iff, or_false] at hy
    rcases hy with rfl | rfl | rfl | rfl | rfl | rfl | rfl | rfl | rfl | rfl | rfl | rfl | rfl | rfl
    · cases _e
    · cases _e
    · cases _e
    · cases _e
    · cases _e
    · cases _e
    · exact ⟨pin_laid_internal_strconv_leftcheats, by kernel_rfl⟩
    · exact ⟨pin_laid_internal_strconv_pow10Tab, by kernel_rfl⟩
    · exact ⟨pin_laid_strconv_isGraphic, by kernel_rfl⟩
    · exact ⟨pin_laid_strconv_isNotPrint16, by kernel_rfl⟩
    · exact ⟨pin_laid_strconv_isNotPrint32, by kernel_rfl⟩
    · exact ⟨pin_laid_strconv_isPrint16, by kernel_rfl⟩
    · exact ⟨pin_laid_strconv_isPrint32, by kernel_rfl⟩
    · exact ⟨pin_laid_unicode_utf8_first, by kernel_rfl⟩) fits2
theorem fnEncodeLax_row_tie : Rows.fnEncodeLaxRow.laidByTextAt .later Tryz.pinned [.data, .data, .data, .data, .data, .sentinel, .pinned, .pinned, .pinned, .pinned, .pinned, .pinned, .pinned, .pinned] true :=
  OpenClaim.laidByTextAt_pinned rfl rfl tie2 rfl rfl rfl rfl (fun y hy _e => by
    simp only [Rows.fnEncodeLaxRow, List.zip_cons_cons, List.zip_nil_right, List.mem_cons, List.mem_nil_iff, or_false] at hy
    rcases hy with rfl | rfl | rfl | rfl | rfl | rfl | rfl | rfl | rfl | rfl | rfl | rfl | rfl | rfl
    · cases _e
    · cases _e
    · cases _e
    · cases _e
    · cases _e
    · cases _e
    · exact ⟨pin_laid_internal_strconv_leftcheats, by kernel_rfl⟩
    · exact ⟨pin_laid_internal_strconv_pow10Tab, by kernel_rfl⟩
    · exact ⟨pin_laid_strconv_isGraphic, by kernel_rfl⟩
    · exact ⟨pin_laid_strconv_isNotPrint16, by kernel_rfl⟩
    · exact ⟨pin_laid_strconv_isNotPrint32, by kernel_rfl⟩
    · exact ⟨pin_laid_strconv_isPrint16, by kernel_rfl⟩
    · exact ⟨pin_laid_strconv_isPrint32, by kernel_rfl⟩
    · exact ⟨pin_laid_unicode_utf8_first, by kernel_rfl⟩) fits2
theorem fnEncodeSum_row_tie : Rows.fnEncodeSumRow.laidByTextAt .later Tryz.pinned [.data, .data, .data, .data, .data, .sentinel, .pinned, .pinned, .pinned, .pinned, .pinned, .pinned, .pinned, .pinned] true :=
  OpenClaim.laidByTextAt_pinned rfl rfl tie2 rfl rfl rfl rfl (fun y hy _e => by
    simp only [Rows.fnEncodeSumRow, List.zip_cons_cons, List.zip_nil_right, List.mem_cons, List.mem_nil_iff, or_false] at hy
    rcases hy with rfl | rfl | rfl | rfl | rfl | rfl | rfl | rfl | rfl | rfl | rfl | rfl | rfl | rfl
    · cases _e
    · cases _e
    · cases _e
    · cases _e
    · cases _e
    · cases _e
    · exact ⟨pin_laid_internal_strconv_leftcheats, by kernel_rfl⟩
    · exact ⟨pin_laid_internal_strconv_pow10Tab, by kernel_rfl⟩
    · exact ⟨pin_laid_strconv_isGraphic, by kernel_rfl⟩
    · exact ⟨pin_laid_strconv_isNotPrint16, by kernel_rfl⟩
    · exact ⟨pin_laid_strconv_isNotPrint32, by kernel_rfl⟩
    · exact ⟨pin_laid_strconv_isPrint16, by kernel_rfl⟩
    · exact ⟨pin_laid_strconv_isPrint32, by kernel_rfl⟩
    · exact ⟨pin_laid_unicode_utf8_first, by kernel_rfl⟩) fits2
theorem fnValidKeyEncodes_row_tie : Rows.fnValidKeyEncodesRow.laidByTextAt .later Tryz.pinned [.data, .data, .data, .data, .data, .sentinel, .pinned, .pinned, .pinned, .pinned, .pinned, .pinned, .pinned, .pinned] true :=
  OpenClaim.laidByTextAt_pinned rfl rfl tie2 rfl rfl rfl rfl (fun y hy _e => by
    simp only [Rows.fnValidKeyEncodesRow, List.zip_cons_cons, List.zip_nil_right, List.mem_cons, List.mem_nil_iff, or_false] at hy
    rcases hy with rfl | rfl | rfl | rfl | rfl | rfl | rfl | rfl | rfl | rfl | rfl | rfl | rfl | rfl
    · cases _e
    · cases _e
    · cases _e
    · cases _e
    · cases _e
    · cases _e
    · exact ⟨pin_laid_internal_strconv_leftcheats, by kernel_rfl⟩
    · exact ⟨pin_laid_internal_strconv_pow10Tab, by kernel_rfl⟩
    · exact ⟨pin_laid_strconv_isGraphic, by kernel_rfl⟩
    · exact ⟨pin_laid_strconv_isNotPrint16, by kernel_rfl⟩
    · exact ⟨pin_laid_strconv_isNotPrint32, by kernel_rfl⟩
    · exact ⟨pin_laid_strconv_isPrint16, by kernel_rfl⟩
    · exact ⟨pin_laid_strconv_isPrint32, by kernel_rfl⟩
    · exact ⟨pin_laid_unicode_utf8_first, by kernel_rfl⟩) fits2
theorem fnEncode_row_tie : Rows.fnEncodeRow.laidByTextAt .later Tryz.pinned [.data, .data, .data, .data, .data, .sentinel, .pinned, .pinned, .pinned, .pinned, .pinned, .pinned, .pinned, .pinned] true :=
  OpenClaim.laidByTextAt_pinned rfl rfl tie2 rfl rfl rfl rfl (fun y hy _e => by
    simp only [Rows.fnEncodeRow, List.zip_cons_cons, List.zip_nil_right, List.mem_cons, List.mem_nil_iff, or_false] at hy
    rcases hy with rfl | rfl | rfl | rfl | rfl | rfl | rfl | rfl | rfl | rfl | rfl | rfl | rfl | rfl
    · cases _e
    · cases _e
    · cases _e
    · cases _e
    · cases _e
    · cases _e
    · exact ⟨pin_laid_internal_strconv_leftcheats, by kernel_rfl⟩
    · exact ⟨pin_laid_internal_strconv_pow10Tab, by kernel_rfl⟩
    · exact ⟨pin_laid_strconv_isGraphic, by kernel_rfl⟩
    · exact ⟨pin_laid_strconv_isNotPrint16, by kernel_rfl⟩
    · exact ⟨pin_laid_strconv_isNotPrint32, by kernel_rfl⟩
    · exact ⟨pin_laid_strconv_isPrint16, by kernel_rfl⟩
    · exact ⟨pin_laid_strconv_isPrint32, by kernel_rfl⟩
    · exact ⟨pin_laid_unicode_utf8_first, by kernel_rfl⟩) fits2
theorem fnEncodeRaw_row_tie : Rows.fnEncodeRawRow.laidByTextAt .later Tryz.pinned [.data, .data, .data, .data, .data, .sentinel, .pinned, .pinned, .pinned, .pinned, .pinned, .pinned, .pinned, .pinned] true :=
  OpenClaim.laidByTextAt_pinned rfl rfl tie2 rfl rfl rfl rfl (fun y hy _e => by
    simp only [Rows.fnEncodeRawRow, List.zip_cons_cons, List.zip_nil_right, List.mem_cons, List.mem_nil_iff, or_false] at hy
    rcases hy with rfl | rfl | rfl | rfl | rfl | rfl | rfl | rfl | rfl | rfl | rfl | rfl | rfl | rfl
    · cases _e
    · cases _e
    · cases _e
    · cases _e
    · cases _e
    · cases _e
    · exact ⟨pin_laid_internal_strconv_leftcheats, by kernel_rfl⟩
    · exact ⟨pin_laid_internal_strconv_pow10Tab, by kernel_rfl⟩
    · exact ⟨pin_laid_strconv_isGraphic, by kernel_rfl⟩
    · exact ⟨pin_laid_strconv_isNotPrint16, by kernel_rfl⟩
    · exact ⟨pin_laid_strconv_isNotPrint32, by kernel_rfl⟩
    · exact ⟨pin_laid_strconv_isPrint16, by kernel_rfl⟩
    · exact ⟨pin_laid_strconv_isPrint32, by kernel_rfl⟩
    · exact ⟨pin_laid_unicode_utf8_first, by kernel_rfl⟩) fits2
theorem fnEncodeText_row_tie : Rows.fnEncodeTextRow.laidByTextAt .later Tryz.pinned [.data, .data, .data, .data, .data, .sentinel, .pinned, .pinned, .pinned, .pinned, .pinned, .pinned, .pinned, .pinned] true :=
  OpenClaim.laidByTextAt_pinned rfl rfl tie2 rfl rfl rfl rfl (fun y hy _e => by
    simp only [Rows.fnEncodeTextRow, List.zip_cons_cons, List.zip_nil_right, List.mem_cons, List.mem_nil_iff, or_false] at hy
    rcases hy with rfl | rfl | rfl | rfl | rfl | rfl | rfl | rfl | rfl | rfl | rfl | rfl | rfl | rfl
    · cases _e
    · cases _e
    · cases _e
    · cases _e
    · cases _e
    · cases _e
    · exact ⟨pin_laid_internal_strconv_leftcheats, by kernel_rfl⟩
    · exact ⟨pin_laid_internal_strconv_pow10Tab, by kernel_rfl⟩
    · exact ⟨pin_laid_strconv_isGraphic, by kernel_rfl⟩
    · exact ⟨pin_laid_strconv_isNotPrint16, by kernel_rfl⟩
    · exact ⟨pin_laid_strconv_isNotPrint32, by kernel_rfl⟩
    · exact ⟨pin_laid_strconv_isPrint16, by kernel_rfl⟩
    · exact ⟨pin_laid_strconv_isPrint32, by kernel_rfl⟩
    · exact ⟨pin_laid_unicode_utf8_first, by kernel_rfl⟩) fits2
theorem fnValueEqualTextUpto_row_tie : Rows.fnValueEqualTextUptoRow.laidByTextAt .later Tryz.pinned [.data, .data, .data, .data, .data, .pinned, .pinned, .pinned, .pinned, .pinned, .pinned, .pinned, .pinned] true :=
  OpenClaim.laidByTextAt_pinned rfl rfl tie rfl rfl rfl rfl (fun y hy _e => by
    simp only [Rows.fnValueEqualTextUptoRow, List.zip_cons_cons, List.zip_nil_right, List.mem_cons, List.mem_nil_iff, or_false] at hy
    rcases hy with rfl | rfl | rfl | rfl | rfl | rfl | rfl | rfl | rfl | rfl | rfl | rfl | rfl
    · cases _e
    · cases _e
    · cases _e
    · cases _e
    · cases _e
    · exact ⟨pin_laid_internal_strconv_leftcheats, by kernel_rfl⟩
    · exact ⟨pin_laid_internal_strconv_pow10Tab, by kernel_rfl⟩
    · exact ⟨pin_laid_strconv_isGraphic, by kernel_rfl⟩
    · exact ⟨pin_laid_strconv_isNotPrint16, by kernel_rfl⟩
    · exact ⟨pin_laid_strconv_isNotPrint32, by kernel_rfl⟩
    · exact ⟨pin_laid_strconv_isPrint16, by kernel_rfl⟩
    · exact ⟨pin_laid_strconv_isPrint32, by kernel_rfl⟩
    · exact ⟨pin_laid_unicode_utf8_first, by kernel_rfl⟩) fits1
theorem fnValueTextUpto_row_tie : Rows.fnValueTextUptoRow.laidByTextAt .later Tryz.pinned [.data, .data, .data, .data, .data, .pinned, .pinned, .pinned, .pinned, .pinned, .pinned, .pinned, .pinned] true :=
  OpenClaim.laidByTextAt_pinned rfl rfl tie rfl rfl rfl rfl (fun y hy _e => by
    simp only [Rows.fnValueTextUptoRow, List.zip_cons_cons, List.zip_nil_right, List.mem_cons, List.mem_nil_iff, or_false] at hy
    rcases hy with rfl | rfl | rfl | rfl | rfl | rfl | rfl | rfl | rfl | rfl | rfl | rfl | rfl
    · cases _e
    · cases _e
    · cases _e
    · cases _e
    · cases _e
    · exact ⟨pin_laid_internal_strconv_leftcheats, by kernel_rfl⟩
    · exact ⟨pin_laid_internal_strconv_pow10Tab, by kernel_rfl⟩
    · exact ⟨pin_laid_strconv_isGraphic, by kernel_rfl⟩
    · exact ⟨pin_laid_strconv_isNotPrint16, by kernel_rfl⟩
    · exact ⟨pin_laid_strconv_isNotPrint32, by kernel_rfl⟩
    · exact ⟨pin_laid_strconv_isPrint16, by kernel_rfl⟩
    · exact ⟨pin_laid_strconv_isPrint32, by kernel_rfl⟩
    · exact ⟨pin_laid_unicode_utf8_first, by kernel_rfl⟩) fits1
theorem fnEncodeBufferUpto_row_tie : Rows.fnEncodeBufferUptoRow.laidByTextAt .later Tryz.pinned [.data, .data, .data, .data, .data, .sentinel, .pinned, .pinned, .pinned, .pinned, .pinned, .pinned, .pinned, .pinned] true :=
  OpenClaim.laidByTextAt_pinned rfl rfl tie2 rfl rfl rfl rfl (fun y hy _e => by
    simp only [Rows.fnEncodeBufferUptoRow, List.zip_cons_cons, List.zip_nil_right, List.mem_cons, List.mem_nil_iff, or_false] at hy
    rcases hy with rfl | rfl | rfl | rfl | rfl | rfl | rfl | rfl | rfl | rfl | rfl | rfl | rfl | rfl
    · cases _e
    · cases _e
    · cases _e
    · cases _e
    · cases _e
    · cases _e
    · exact ⟨pin_laid_internal_strconv_leftcheats, by kernel_rfl⟩
    · exact ⟨pin_laid_internal_strconv_pow10Tab, by kernel_rfl⟩
    · exact ⟨pin_laid_strconv_isGraphic, by kernel_rfl⟩
    · exact ⟨pin_laid_strconv_isNotPrint16, by kernel_rfl⟩
    · exact ⟨pin_laid_strconv_isNotPrint32, by kernel_rfl⟩
    · exact ⟨pin_laid_strconv_isPrint16, by kernel_rfl⟩
    · exact ⟨pin_laid_strconv_isPrint32, by kernel_rfl⟩
    · exact ⟨pin_laid_unicode_utf8_first, by kernel_rfl⟩) fits2
theorem fnEncodeClearUpto_row_tie : Rows.fnEncodeClearUptoRow.laidByTextAt .later Tryz.pinned [.data, .data, .data, .data, .data, .sentinel, .pinned, .pinned, .pinned, .pinned, .pinned, .pinned, .pinned, .pinned] true :=
  OpenClaim.laidByTextAt_pinned rfl rfl tie2 rfl rfl rfl rfl (fun y hy _e => by
    simp only [Rows.fnEncodeClearUptoRow, List.zip_cons_cons, List.zip_nil_right, List.mem_cons, List.mem_nil_iff, or_false] at hy
    rcases hy with rfl | rfl | rfl | rfl | rfl | rfl | rfl | rfl | rfl | rfl | rfl | rfl | rfl | rfl
    · cases _e
    · cases _e
    · cases _e
    · cases _e
    · cases _e
    · cases _e
    · exact ⟨pin_laid_internal_strconv_leftcheats, by kernel_rfl⟩
    · exact ⟨pin_laid_internal_strconv_pow10Tab, by kernel_rfl⟩
    · exact ⟨pin_laid_strconv_isGraphic, by kernel_rfl⟩
    · exact ⟨pin_laid_strconv_isNotPrint16, by kernel_rfl⟩
    · exact ⟨pin_laid_strconv_isNotPrint32, by kernel_rfl⟩
    · exact ⟨pin_laid_strconv_isPrint16, by kernel_rfl⟩
    · exact ⟨pin_laid_strconv_isPrint32, by kernel_rfl⟩
    · exact ⟨pin_laid_unicode_utf8_first, by kernel_rfl⟩) fits2
theorem fnEncodeEachUpto_row_tie : Rows.fnEncodeEachUptoRow.laidByTextAt .later Tryz.pinned [.data, .data, .data, .data, .data, .sentinel, .pinned, .pinned, .pinned, .pinned, .pinned, .pinned, .pinned, .pinned] true :=
  OpenClaim.laidByTextAt_pinned rfl rfl tie2 rfl rfl rfl rfl (fun y hy _e => by
    simp only [Rows.fnEncodeEachUptoRow, List.zip_cons_cons, List.zip_nil_right, List.mem_cons, List.mem_nil_iff, or_false] at hy
    rcases hy with rfl | rfl | rfl | rfl | rfl | rfl | rfl | rfl | rfl | rfl | rfl | rfl | rfl | rfl
    · cases _e
    · cases _e
    · cases _e
    · cases _e
    · cases _e
    · cases _e
    · exact ⟨pin_laid_internal_strconv_leftcheats, by kernel_rfl⟩
    · exact ⟨pin_laid_internal_strconv_pow10Tab, by kernel_rfl⟩
    · exact ⟨pin_laid_strconv_isGraphic, by kernel_rfl⟩
    · exact ⟨pin_laid_strconv_isNotPrint16, by kernel_rfl⟩
    · exact ⟨pin_laid_strconv_isNotPrint32, by kernel_rfl⟩
    · exact ⟨pin_laid_strconv_isPrint16, by kernel_rfl⟩
    · exact ⟨pin_laid_strconv_isPrint32, by kernel_rfl⟩
    · exact ⟨pin_laid_unicode_utf8_first, by kernel_rfl⟩) fits2
theorem fnEncodeLaxUpto_row_tie : Rows.fnEncodeLaxUptoRow.laidByTextAt .later Tryz.pinned [.data, .data, .data, .data, .data, .sentinel, .pinned, .pinned, .pinned, .pinned, .pinned, .pinned, .pinned, .pinned] true :=
  OpenClaim.laidByTextAt_pinned rfl rfl tie2 rfl rfl rfl rfl (fun y hy _e => by
    simp only [Rows.fnEncodeLaxUptoRow, List.zip_cons_cons, List.zip_nil_right, List.mem_cons, List.mem_nil_iff, or_false] at hy
    rcases hy with rfl | rfl | rfl | rfl | rfl | rfl | rfl | rfl | rfl | rfl | rfl | rfl | rfl | rfl
    · cases _e
    · cases _e
    · cases _e
    · cases _e
    · cases _e
    · cases _e
    · exact ⟨pin_laid_internal_strconv_leftcheats, by kernel_rfl⟩
    · exact ⟨pin_laid_internal_strconv_pow10Tab, by kernel_rfl⟩
    · exact ⟨pin_laid_strconv_isGraphic, by kernel_rfl⟩
    · exact ⟨pin_laid_strconv_isNotPrint16, by kernel_rfl⟩
    · exact ⟨pin_laid_strconv_isNotPrint32, by kernel_rfl⟩
    · exact ⟨pin_laid_strconv_isPrint16, by kernel_rfl⟩
    · exact ⟨pin_laid_strconv_isPrint32, by kernel_rfl⟩
    · exact ⟨pin_laid_unicode_utf8_first, by kernel_rfl⟩) fits2
theorem fnEncodeSumUpto_row_tie : Rows.fnEncodeSumUptoRow.laidByTextAt .later Tryz.pinned [.data, .data, .data, .data, .data, .sentinel, .pinned, .pinned, .pinned, .pinned, .pinned, .pinned, .pinned, .pinned] true :=
  OpenClaim.laidByTextAt_pinned rfl rfl tie2 rfl rfl rfl rfl (fun y hy _e => by
    simp only [Rows.fnEncodeSumUptoRow, List.zip_cons_cons, List.zip_nil_right, List.mem_cons, List.mem_nil_iff, or_false] at hy
    rcases hy with rfl | rfl | rfl | rfl | rfl | rfl | rfl | rfl | rfl | rfl | rfl | rfl | rfl | rfl
    · cases _e
    · cases _e
    · cases _e
    · cases _e
    · cases _e
    · cases _e
    · exact ⟨pin_laid_internal_strconv_leftcheats, by kernel_rfl⟩
    · exact ⟨pin_laid_internal_strconv_pow10Tab, by kernel_rfl⟩
    · exact ⟨pin_laid_strconv_isGraphic, by kernel_rfl⟩
    · exact ⟨pin_laid_strconv_isNotPrint16, by kernel_rfl⟩
    · exact ⟨pin_laid_strconv_isNotPrint32, by kernel_rfl⟩
    · exact ⟨pin_laid_strconv_isPrint16, by kernel_rfl⟩
    · exact ⟨pin_laid_strconv_isPrint32, by kernel_rfl⟩
    · exact ⟨pin_laid_unicode_utf8_first, by kernel_rfl⟩) fits2
theorem fnValidKeyEncodesUpto_row_tie : Rows.fnValidKeyEncodesUptoRow.laidByTextAt .later Tryz.pinned [.data, .data, .data, .data, .data, .sentinel, .pinned, .pinned, .pinned, .pinned, .pinned, .pinned, .pinned, .pinned] true :=
  OpenClaim.laidByTextAt_pinned rfl rfl tie2 rfl rfl rfl rfl (fun y hy _e => by
    simp only [Rows.fnValidKeyEncodesUptoRow, List.zip_cons_cons, List.zip_nil_right, List.mem_cons, List.mem_nil_iff, or_false] at hy
    rcases hy with rfl | rfl | rfl | rfl | rfl | rfl | rfl | rfl | rfl | rfl | rfl | rfl | rfl | rfl
    · cases _e
    · cases _e
    · cases _e
    · cases _e
    · cases _e
    · cases _e
    · exact ⟨pin_laid_internal_strconv_leftcheats, by kernel_rfl⟩
    · exact ⟨pin_laid_internal_strconv_pow10Tab, by kernel_rfl⟩
    · exact ⟨pin_laid_strconv_isGraphic, by kernel_rfl⟩
    · exact ⟨pin_laid_strconv_isNotPrint16, by kernel_rfl⟩
    · exact ⟨pin_laid_strconv_isNotPrint32, by kernel_rfl⟩
    · exact ⟨pin_laid_strconv_isPrint16, by kernel_rfl⟩
    · exact ⟨pin_laid_strconv_isPrint32, by kernel_rfl⟩
    · exact ⟨pin_laid_unicode_utf8_first, by kernel_rfl⟩) fits2
theorem fnEncodeUpto_row_tie : Rows.fnEncodeUptoRow.laidByTextAt .later Tryz.pinned [.data, .data, .data, .data, .data, .sentinel, .pinned, .pinned, .pinned, .pinned, .pinned, .pinned, .pinned, .pinned] true :=
  OpenClaim.laidByTextAt_pinned rfl rfl tie2 rfl rfl rfl rfl (fun y hy _e => by
    simp only [Rows.fnEncodeUptoRow, List.zip_cons_cons, List.zip_nil_right, List.mem_cons, List.mem_nil_iff, or_false] at hy
    rcases hy with rfl | rfl | rfl | rfl | rfl | rfl | rfl | rfl | rfl | rfl | rfl | rfl | rfl | rfl
    · cases _e
    · cases _e
    · cases _e
    · cases _e
    · cases _e
    · cases _e
    · exact ⟨pin_laid_internal_strconv_leftcheats, by kernel_rfl⟩
    · exact ⟨pin_laid_internal_strconv_pow10Tab, by kernel_rfl⟩
    · exact ⟨pin_laid_strconv_isGraphic, by kernel_rfl⟩
    · exact ⟨pin_laid_strconv_isNotPrint16, by kernel_rfl⟩
    · exact ⟨pin_laid_strconv_isNotPrint32, by kernel_rfl⟩
    · exact ⟨pin_laid_strconv_isPrint16, by kernel_rfl⟩
    · exact ⟨pin_laid_strconv_isPrint32, by kernel_rfl⟩
    · exact ⟨pin_laid_unicode_utf8_first, by kernel_rfl⟩) fits2
theorem fnEncodeRawUpto_row_tie : Rows.fnEncodeRawUptoRow.laidByTextAt .later Tryz.pinned [.data, .data, .data, .data, .data, .sentinel, .pinned, .pinned, .pinned, .pinned, .pinned, .pinned, .pinned, .pinned] true :=
  OpenClaim.laidByTextAt_pinned rfl rfl tie2 rfl rfl rfl rfl (fun y hy _e => by
    simp only [Rows.fnEncodeRawUptoRow, List.zip_cons_cons, List.zip_nil_right, List.mem_cons, List.mem_nil_iff, or_false] at hy
    rcases hy with rfl | rfl | rfl | rfl | rfl | rfl | rfl | rfl | rfl | rfl | rfl | rfl | rfl | rfl
    · cases _e
    · cases _e
    · cases _e
    · cases _e
    · cases _e
    · cases _e
    · exact ⟨pin_laid_internal_strconv_leftcheats, by kernel_rfl⟩
    · exact ⟨pin_laid_internal_strconv_pow10Tab, by kernel_rfl⟩
    · exact ⟨pin_laid_strconv_isGraphic, by kernel_rfl⟩
    · exact ⟨pin_laid_strconv_isNotPrint16, by kernel_rfl⟩
    · exact ⟨pin_laid_strconv_isNotPrint32, by kernel_rfl⟩
    · exact ⟨pin_laid_strconv_isPrint16, by kernel_rfl⟩
    · exact ⟨pin_laid_strconv_isPrint32, by kernel_rfl⟩
    · exact ⟨pin_laid_unicode_utf8_first, by kernel_rfl⟩) fits2
theorem fnEncodeTextUpto_row_tie : Rows.fnEncodeTextUptoRow.laidByTextAt .later Tryz.pinned [.data, .data, .data, .data, .data, .sentinel, .pinned, .pinned, .pinned, .pinned, .pinned, .pinned, .pinned, .pinned] true :=
  OpenClaim.laidByTextAt_pinned rfl rfl tie2 rfl rfl rfl rfl (fun y hy _e => by
    simp only [Rows.fnEncodeTextUptoRow, List.zip_cons_cons, List.zip_nil_right, List.mem_cons, List.mem_nil_iff, or_false] at hy
    rcases hy with rfl | rfl | rfl | rfl | rfl | rfl | rfl | rfl | rfl | rfl | rfl | rfl | rfl | rfl
    · cases _e
    · cases _e
    · cases _e
    · cases _e
    · cases _e
    · cases _e
    · exact ⟨pin_laid_internal_strconv_leftcheats, by kernel_rfl⟩
    · exact ⟨pin_laid_internal_strconv_pow10Tab, by kernel_rfl⟩
    · exact ⟨pin_laid_strconv_isGraphic, by kernel_rfl⟩
    · exact ⟨pin_laid_strconv_isNotPrint16, by kernel_rfl⟩
    · exact ⟨pin_laid_strconv_isNotPrint32, by kernel_rfl⟩
    · exact ⟨pin_laid_strconv_isPrint16, by kernel_rfl⟩
    · exact ⟨pin_laid_strconv_isPrint32, by kernel_rfl⟩
    · exact ⟨pin_laid_unicode_utf8_first, by kernel_rfl⟩) fits2
end Go.Proofs.YtaaogjhaokaggaaGreatDoor
