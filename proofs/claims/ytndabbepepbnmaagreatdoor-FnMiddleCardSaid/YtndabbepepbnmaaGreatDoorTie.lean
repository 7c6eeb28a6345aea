/-
  DERIVED. GIVEN WITH THE SEED: THE PROGRAM's TIES (one call each: nine closed facts by the kernel) AND EACH ROW's TIE, after the 31st guide's Derived/Test/Toyas{Tie, Card}.lean. No idea stands in it: it is a product of the set-up. Laid BY PROGRAM, IN A SANDBOX (cutbox-door.mjs). By AI agents, Wed Nov 11 2026. No macro, syntax, notation, axiom, sorry.
-/
import Derived.Test.YtndabbepepbnmaaGreatDoorRows
import Derived.LaidByTextLater
import Derived.SevenTiedAt
import Derived.LaidSub
import Derived.LaidOnce
namespace Go.Proofs.YtndabbepepbnmaaGreatDoor
open Go
set_option maxRecDepth 100000
theorem seatTie1 : Tryz.prog.laidByTextLater [("math/bits.deBruijn32tab", Rows.laid_math_bits_deBruijn32tab), ("math/bits.deBruijn64tab", Rows.laid_math_bits_deBruijn64tab), ("internal/strconv.float32info", Rows.laid_internal_strconv_float32info), ("internal/strconv.float64info", Rows.laid_internal_strconv_float64info), ("internal/strconv.optimize", Rows.laid_internal_strconv_optimize), ("internal/strconv.powtab", Rows.laid_internal_strconv_powtab), ("internal/strconv.float64pow10", Rows.laid_internal_strconv_float64pow10), ("internal/strconv.float32pow10", Rows.laid_internal_strconv_float32pow10), ("internal/strconv.uint64pow10", Rows.laid_internal_strconv_uint64pow10), ("unicode/utf8.acceptRanges", Rows.laid_unicode_utf8_acceptRanges), ("strconv.ErrRange", Rows.laid_strconv_ErrRange), ("strconv.ErrSyntax", Rows.laid_strconv_ErrSyntax), ("bytes.ErrTooLarge", Rows.laid_bytes_ErrTooLarge)] [.data, .data, .widerDeep, .widerDeep, .data, .data, .data, .data, .data, .data, .sentinel, .sentinel, .sentinel] true :=
  Program.laidByTextLater_by_one 120 8 65 (by kernel_rfl) (by kernel_rfl) (by kernel_rfl) (by kernel_rfl) (by kernel_rfl) (by kernel_rfl) (fun _ _ => by kernel_rfl)
theorem pin_laid_internal_strconv_leftcheats : Tryz.pinned.checked.prog.pinnedFits "internal/strconv.leftcheats" = true := by kernel_rfl
theorem pin_laid_internal_strconv_pow10Tab : Tryz.pinned.checked.prog.pinnedFits "internal/strconv.pow10Tab" = true := by kernel_rfl
theorem pin_laid_unicode_CaseRanges : Tryz.pinned.checked.prog.pinnedFits "unicode.CaseRanges" = true := by kernel_rfl
theorem pin_laid_unicode_utf8_first : Tryz.pinned.checked.prog.pinnedFits "unicode/utf8.first" = true := by kernel_rfl
theorem noOwnUnsafe : Tryz.pinned.checked.prog.headLifts.contains "ownunsafe" = false := by kernel_rfl
theorem fits1 : Tryz.pinned.checked.prog.listedFits [("math/bits.deBruijn32tab", Rows.laid_math_bits_deBruijn32tab), ("math/bits.deBruijn64tab", Rows.laid_math_bits_deBruijn64tab), ("internal/strconv.float32info", Rows.laid_internal_strconv_float32info), ("internal/strconv.float64info", Rows.laid_internal_strconv_float64info), ("internal/strconv.optimize", Rows.laid_internal_strconv_optimize), ("internal/strconv.powtab", Rows.laid_internal_strconv_powtab), ("internal/strconv.float64pow10", Rows.laid_internal_strconv_float64pow10), ("internal/strconv.float32pow10", Rows.laid_internal_strconv_float32pow10), ("internal/strconv.uint64pow10", Rows.laid_internal_strconv_uint64pow10), ("strconv.ErrRange", Rows.laid_strconv_ErrRange), ("strconv.ErrSyntax", Rows.laid_strconv_ErrSyntax), ("internal/strconv.leftcheats", Rows.laid_internal_strconv_leftcheats), ("internal/strconv.pow10Tab", Rows.laid_internal_strconv_pow10Tab)] = true := by
  unfold Program.listedFits
  rw [noOwnUnsafe]
  kernel_rfl
theorem tie : Tryz.prog.laidByTextLater [("math/bits.deBruijn32tab", Rows.laid_math_bits_deBruijn32tab), ("math/bits.deBruijn64tab", Rows.laid_math_bits_deBruijn64tab), ("internal/strconv.float32info", Rows.laid_internal_strconv_float32info), ("internal/strconv.float64info", Rows.laid_internal_strconv_float64info), ("internal/strconv.optimize", Rows.laid_internal_strconv_optimize), ("internal/strconv.powtab", Rows.laid_internal_strconv_powtab), ("internal/strconv.float64pow10", Rows.laid_internal_strconv_float64pow10), ("internal/strconv.float32pow10", Rows.laid_internal_strconv_float32pow10), ("internal/strconv.uint64pow10", Rows.laid_internal_strconv_uint64pow10), ("strconv.ErrRange", Rows.laid_strconv_ErrRange), ("strconv.ErrSyntax", Rows.laid_strconv_ErrSyntax)] [.data, .data, .widerDeep, .widerDeep, .data, .data, .data, .data, .data, .sentinel, .sentinel] true :=
  Program.laidByTextLater.sub seatTie1 ["math/bits.deBruijn32tab", "math/bits.deBruijn64tab", "internal/strconv.float32info", "internal/strconv.float64info", "internal/strconv.optimize", "internal/strconv.powtab", "internal/strconv.float64pow10", "internal/strconv.float32pow10", "internal/strconv.uint64pow10", "strconv.ErrRange", "strconv.ErrSyntax"] (by kernel_rfl) (by kernel_rfl)
theorem fnFactStep_row_tie : Rows.fnFactStepRow.laidByTextAt .later Tryz.pinned [.data, .data, .widerDeep, .widerDeep, .data, .data, .data, .data, .data, .sentinel, .sentinel, .pinned, .pinned] true :=
  OpenClaim.laidByTextAt_pinned rfl rfl tie rfl rfl rfl rfl (fun y hy _e => by
    simp only [Rows.fnFactStepRow, List.zip_cons_cons, List.zip_nil_right, List.mem_cons, List.mem_nil_iff, or_false] at hy
    rcases hy with rfl | rfl | rfl | rfl | rfl | rfl | rfl | rfl | rfl | rfl | rfl | rfl | rfl
    · cases _e
    · cases _e
    · cases _e
    · cases _e
    · cases _e
    · cases _e
    · cases _e
    · cases _e
    · cases _e
    · cases _e
    · cases _e
    · exact ⟨pin_laid_internal_strconv_leftcheats, by kernel_rfl⟩
    · exact ⟨pin_laid_internal_strconv_pow10Tab, by kernel_rfl⟩) fits1
theorem fnXorFold_row_tie : Rows.fnXorFoldRow.laidByTextAt .later Tryz.pinned [.data, .data, .widerDeep, .widerDeep, .data, .data, .data, .data, .data, .sentinel, .sentinel, .pinned, .pinned] true :=
  OpenClaim.laidByTextAt_pinned rfl rfl tie rfl rfl rfl rfl (fun y hy _e => by
    simp only [Rows.fnXorFoldRow, List.zip_cons_cons, List.zip_nil_right, List.mem_cons, List.mem_nil_iff, or_false] at hy
    rcases hy with rfl | rfl | rfl | rfl | rfl | rfl | rfl | rfl | rfl | rfl | rfl | rfl | rfl
    · cases _e
    · cases _e
    · cases _e
    · cases _e
    · cases _e
    · cases _e
    · cases _e
    · cases _e
    · cases _e
    · cases _e
    · cases _e
    · exact ⟨pin_laid_internal_strconv_leftcheats, by kernel_rfl⟩
    · exact ⟨pin_laid_internal_strconv_pow10Tab, by kernel_rfl⟩) fits1
theorem fnBits_row_tie : Rows.fnBitsRow.laidByTextAt .later Tryz.pinned [.data, .data, .widerDeep, .widerDeep, .data, .data, .data, .data, .data, .sentinel, .sentinel, .pinned, .pinned] true :=
  OpenClaim.laidByTextAt_pinned rfl rfl tie rfl rfl rfl rfl (fun y hy _e => by
    simp only [Rows.fnBitsRow, List.zip_cons_cons, List.zip_nil_right, List.mem_cons, List.mem_nil_iff, or_false] at hy
    rcases hy with rfl | rfl | rfl | rfl | rfl | rfl | rfl | rfl | rfl | rfl | rfl | rfl | rfl
    · cases _e
    · cases _e
    · cases _e
    · cases _e
    · cases _e
    · cases _e
    · cases _e
    · cases _e
    · cases _e
    · cases _e
    · cases _e
    · exact ⟨pin_laid_internal_strconv_leftcheats, by kernel_rfl⟩
    · exact ⟨pin_laid_internal_strconv_pow10Tab, by kernel_rfl⟩) fits1
theorem fnModQuotient_row_tie : Rows.fnModQuotientRow.laidByTextAt .later Tryz.pinned [.data, .data, .widerDeep, .widerDeep, .data, .data, .data, .data, .data, .sentinel, .sentinel, .pinned, .pinned] true :=
  OpenClaim.laidByTextAt_pinned rfl rfl tie rfl rfl rfl rfl (fun y hy _e => by
    simp only [Rows.fnModQuotientRow, List.zip_cons_cons, List.zip_nil_right, List.mem_cons, List.mem_nil_iff, or_false] at hy
    rcases hy with rfl | rfl | rfl | rfl | rfl | rfl | rfl | rfl | rfl | rfl | rfl | rfl | rfl
    · cases _e
    · cases _e
    · cases _e
    · cases _e
    · cases _e
    · cases _e
    · cases _e
    · cases _e
    · cases _e
    · cases _e
    · cases _e
    · exact ⟨pin_laid_internal_strconv_leftcheats, by kernel_rfl⟩
    · exact ⟨pin_laid_internal_strconv_pow10Tab, by kernel_rfl⟩) fits1
theorem fnSumParts_row_tie : Rows.fnSumPartsRow.laidByTextAt .later Tryz.pinned [.data, .data, .widerDeep, .widerDeep, .data, .data, .data, .data, .data, .sentinel, .sentinel, .pinned, .pinned] true :=
  OpenClaim.laidByTextAt_pinned rfl rfl tie rfl rfl rfl rfl (fun y hy _e => by
    simp only [Rows.fnSumPartsRow, List.zip_cons_cons, List.zip_nil_right, List.mem_cons, List.mem_nil_iff, or_false] at hy
    rcases hy with rfl | rfl | rfl | rfl | rfl | rfl | rfl | rfl | rfl | rfl | rfl | rfl | rfl
    · cases _e
    · cases _e
    · cases _e
    · cases _e
    · cases _e
    · cases _e
    · cases _e
    · cases _e
    · cases _e
    · cases _e
    · cases _e
    · exact ⟨pin_laid_internal_strconv_leftcheats, by kernel_rfl⟩
    · exact ⟨pin_laid_internal_strconv_pow10Tab, by kernel_rfl⟩) fits1
theorem fnUnit_row_tie : Rows.fnUnitRow.laidByTextAt .later Tryz.pinned [.data, .data, .widerDeep, .widerDeep, .data, .data, .data, .data, .data, .sentinel, .sentinel, .pinned, .pinned] true :=
  OpenClaim.laidByTextAt_pinned rfl rfl tie rfl rfl rfl rfl (fun y hy _e => by
    simp only [Rows.fnUnitRow, List.zip_cons_cons, List.zip_nil_right, List.mem_cons, List.mem_nil_iff, or_false] at hy
    rcases hy with rfl | rfl | rfl | rfl | rfl | rfl | rfl | rfl | rfl | rfl | rfl | rfl | rfl
    · cases _e
    · cases _e
    · cases _e
    · cases _e
    · cases _e
    · cases _e
    · cases _e
    · cases _e
    · cases _e
    · cases _e
    · cases _e
    · exact ⟨pin_laid_internal_strconv_leftcheats, by kernel_rfl⟩
    · exact ⟨pin_laid_internal_strconv_pow10Tab, by kernel_rfl⟩) fits1
theorem fnEvenOdd_row_tie : Rows.fnEvenOddRow.laidByTextAt .later Tryz.pinned [.data, .data, .widerDeep, .widerDeep, .data, .data, .data, .data, .data, .sentinel, .sentinel, .pinned, .pinned] true :=
  OpenClaim.laidByTextAt_pinned rfl rfl tie rfl rfl rfl rfl (fun y hy _e => by
    simp only [Rows.fnEvenOddRow, List.zip_cons_cons, List.zip_nil_right, List.mem_cons, List.mem_nil_iff, or_false] at hy
    rcases hy with rfl | rfl | rfl | rfl | rfl | rfl | rfl | rfl | rfl | rfl | rfl | rfl | rfl
    · cases _e
    · cases _e
    · cases _e
    · cases _e
    · cases _e
    · cases _e
    · cases _e
    · cases _e
    · cases _e
    · cases _e
    · cases _e
    · exact ⟨pin_laid_internal_strconv_leftcheats, by kernel_rfl⟩
    · exact ⟨pin_laid_internal_strconv_pow10Tab, by kernel_rfl⟩) fits1
theorem fnGcdLcm_row_tie : Rows.fnGcdLcmRow.laidByTextAt .later Tryz.pinned [.data, .data, .widerDeep, .widerDeep, .data, .data, .data, .data, .data, .sentinel, .sentinel, .pinned, .pinned] true :=
  OpenClaim.laidByTextAt_pinned rfl rfl tie rfl rfl rfl rfl (fun y hy _e => by
    simp only [Rows.fnGcdLcmRow, List.zip_cons_cons, List.zip_nil_right, List.mem_cons, List.mem_nil_iff, or_false] at hy
    rcases hy with rfl | rfl | rfl | rfl | rfl | rfl | rfl | rfl | rfl | rfl | rfl | rfl | rfl
    · cases _e
    · cases _e
    · cases _e
    · cases _e
    · cases _e
    · cases _e
    · cases _e
    · cases _e
    · cases _e
    · cases _e
    · cases _e
    · exact ⟨pin_laid_internal_strconv_leftcheats, by kernel_rfl⟩
    · exact ⟨pin_laid_internal_strconv_pow10Tab, by kernel_rfl⟩) fits1
theorem fnMiddle_row_tie : Rows.fnMiddleRow.laidByTextAt .later Tryz.pinned [.data, .data, .widerDeep, .widerDeep, .data, .data, .data, .data, .data, .sentinel, .sentinel, .pinned, .pinned] true :=
  OpenClaim.laidByTextAt_pinned rfl rfl tie rfl rfl rfl rfl (fun y hy _e => by
    simp only [Rows.fnMiddleRow, List.zip_cons_cons, List.zip_nil_right, List.mem_cons, List.mem_nil_iff, or_false] at hy
    rcases hy with rfl | rfl | rfl | rfl | rfl | rfl | rfl | rfl | rfl | rfl | rfl | rfl | rfl
    · cases _e
    · cases _e
    · cases _e
    · cases _e
    · cases _e
    · cases _e
    · cases _e
    · cases _e
    · cases _e
    · cases _e
    · cases _e
    · exact ⟨pin_laid_internal_strconv_leftcheats, by kernel_rfl⟩
    · exact ⟨pin_laid_internal_strconv_pow10Tab, by kernel_rfl⟩) fits1
theorem fnCharCode_row_tie : Rows.fnCharCodeRow.laidByTextAt .later Tryz.pinned [.data, .data, .widerDeep, .widerDeep, .data, .data, .data, .data, .data, .sentinel, .sentinel, .pinned, .pinned] true :=
  OpenClaim.laidByTextAt_pinned rfl rfl tie rfl rfl rfl rfl (fun y hy _e => by
    simp only [Rows.fnCharCodeRow, List.zip_cons_cons, List.zip_nil_right, List.mem_cons, List.mem_nil_iff, or_false] at hy
    rcases hy with rfl | rfl | rfl | rfl | rfl | rfl | rfl | rfl | rfl | rfl | rfl | rfl | rfl
    · cases _e
    · cases _e
    · cases _e
    · cases _e
    · cases _e
    · cases _e
    · cases _e
    · cases _e
    · cases _e
    · cases _e
    · cases _e
    · exact ⟨pin_laid_internal_strconv_leftcheats, by kernel_rfl⟩
    · exact ⟨pin_laid_internal_strconv_pow10Tab, by kernel_rfl⟩) fits1
theorem fits2 : Tryz.pinned.checked.prog.listedFits [("math/bits.deBruijn32tab", Rows.laid_math_bits_deBruijn32tab), ("math/bits.deBruijn64tab", Rows.laid_math_bits_deBruijn64tab), ("internal/strconv.optimize", Rows.laid_internal_strconv_optimize), ("internal/strconv.uint64pow10", Rows.laid_internal_strconv_uint64pow10), ("unicode/utf8.acceptRanges", Rows.laid_unicode_utf8_acceptRanges), ("internal/strconv.leftcheats", Rows.laid_internal_strconv_leftcheats), ("internal/strconv.pow10Tab", Rows.laid_internal_strconv_pow10Tab), ("unicode.CaseRanges", Rows.laid_unicode_CaseRanges), ("unicode/utf8.first", Rows.laid_unicode_utf8_first)] = true := by
  unfold Program.listedFits
  rw [noOwnUnsafe]
  kernel_rfl
theorem tie2 : Tryz.prog.laidByTextLater [("math/bits.deBruijn32tab", Rows.laid_math_bits_deBruijn32tab), ("math/bits.deBruijn64tab", Rows.laid_math_bits_deBruijn64tab), ("internal/strconv.optimize", Rows.laid_internal_strconv_optimize), ("internal/strconv.uint64pow10", Rows.laid_internal_strconv_uint64pow10), ("unicode/utf8.acceptRanges", Rows.laid_unicode_utf8_acceptRanges)] [.data, .data, .data, .data, .data] true :=
  Program.laidByTextLater.sub seatTie1 ["math/bits.deBruijn32tab", "math/bits.deBruijn64tab", "internal/strconv.optimize", "internal/strconv.uint64pow10", "unicode/utf8.acceptRanges"] (by kernel_rfl) (by kernel_rfl)
theorem fnLowerTwice_row_tie : Rows.fnLowerTwiceRow.laidByTextAt .later Tryz.pinned [.data, .data, .data, .data, .data, .pinned, .pinned, .pinned, .pinned] true :=
  OpenClaim.laidByTextAt_pinned rfl rfl tie2 rfl rfl rfl rfl (fun y hy _e => by
    simp only [Rows.fnLowerTwiceRow, List.zip_cons_cons, List.zip_nil_right, List.mem_cons, List.mem_nil_iff, or_false] at hy
    rcases hy with rfl | rfl | rfl | rfl | rfl | rfl | rfl | rfl | rfl
    · cases _e
    · cases _e
    · cases _e
    · cases _e
    · cases _e
    · exact ⟨pin_laid_internal_strconv_leftcheats, by kernel_rfl⟩
    · exact ⟨pin_laid_internal_strconv_pow10Tab, by kernel_rfl⟩
    · exact ⟨pin_laid_unicode_CaseRanges, by kernel_rfl⟩
    · exact ⟨pin_laid_unicode_utf8_first, by kernel_rfl⟩) fits2
theorem fnUpperTwice_row_tie : Rows.fnUpperTwiceRow.laidByTextAt .later Tryz.pinned [.data, .data, .data, .data, .data, .pinned, .pinned, .pinned, .pinned] true :=
  OpenClaim.laidByTextAt_pinned rfl rfl tie2 rfl rfl rfl rfl (fun y hy _e => by
    simp only [Rows.fnUpperTwiceRow, List.zip_cons_cons, List.zip_nil_right, List.mem_cons, List.mem_nil_iff, or_false] at hy
    rcases hy with rfl | rfl | rfl | rfl | rfl | rfl | rfl | rfl | rfl
    · cases _e
    · cases _e
    · cases _e
    · cases _e
    · cases _e
    · exact ⟨pin_laid_internal_strconv_leftcheats, by kernel_rfl⟩
    · exact ⟨pin_laid_internal_strconv_pow10Tab, by kernel_rfl⟩
    · exact ⟨pin_laid_unicode_CaseRanges, by kernel_rfl⟩
    · exact ⟨pin_laid_unicode_utf8_first, by kernel_rfl⟩) fits2
theorem fnUpperLower_row_tie : Rows.fnUpperLowerRow.laidByTextAt .later Tryz.pinned [.data, .data, .data, .data, .data, .pinned, .pinned, .pinned, .pinned] true :=
  OpenClaim.laidByTextAt_pinned rfl rfl tie2 rfl rfl rfl rfl (fun y hy _e => by
    simp only [Rows.fnUpperLowerRow, List.zip_cons_cons, List.zip_nil_right, List.mem_cons, List.mem_nil_iff, or_false] at hy
    rcases hy with rfl | rfl | rfl | rfl | rfl | rfl | rfl | rfl | rfl
    · cases _e
    · cases _e
    · cases _e
    · cases _e
    · cases _e
    · exact ⟨pin_laid_internal_strconv_leftcheats, by kernel_rfl⟩
    · exact ⟨pin_laid_internal_strconv_pow10Tab, by kernel_rfl⟩
    · exact ⟨pin_laid_unicode_CaseRanges, by kernel_rfl⟩
    · exact ⟨pin_laid_unicode_utf8_first, by kernel_rfl⟩) fits2
theorem fnMorgan_row_tie : Rows.fnMorganRow.laidByTextAt .later Tryz.pinned [.data, .data, .data, .data, .data, .pinned, .pinned, .pinned, .pinned] true :=
  OpenClaim.laidByTextAt_pinned rfl rfl tie2 rfl rfl rfl rfl (fun y hy _e => by
    simp only [Rows.fnMorganRow, List.zip_cons_cons, List.zip_nil_right, List.mem_cons, List.mem_nil_iff, or_false] at hy
    rcases hy with rfl | rfl | rfl | rfl | rfl | rfl | rfl | rfl | rfl
    · cases _e
    · cases _e
    · cases _e
    · cases _e
    · cases _e
    · exact ⟨pin_laid_internal_strconv_leftcheats, by kernel_rfl⟩
    · exact ⟨pin_laid_internal_strconv_pow10Tab, by kernel_rfl⟩
    · exact ⟨pin_laid_unicode_CaseRanges, by kernel_rfl⟩
    · exact ⟨pin_laid_unicode_utf8_first, by kernel_rfl⟩) fits2
theorem fits3 : Tryz.pinned.checked.prog.listedFits [("math/bits.deBruijn32tab", Rows.laid_math_bits_deBruijn32tab), ("math/bits.deBruijn64tab", Rows.laid_math_bits_deBruijn64tab), ("internal/strconv.float32info", Rows.laid_internal_strconv_float32info), ("internal/strconv.float64info", Rows.laid_internal_strconv_float64info), ("internal/strconv.optimize", Rows.laid_internal_strconv_optimize), ("internal/strconv.powtab", Rows.laid_internal_strconv_powtab), ("internal/strconv.float64pow10", Rows.laid_internal_strconv_float64pow10), ("internal/strconv.float32pow10", Rows.laid_internal_strconv_float32pow10), ("internal/strconv.uint64pow10", Rows.laid_internal_strconv_uint64pow10), ("strconv.ErrRange", Rows.laid_strconv_ErrRange), ("strconv.ErrSyntax", Rows.laid_strconv_ErrSyntax), ("bytes.ErrTooLarge", Rows.laid_bytes_ErrTooLarge), ("internal/strconv.leftcheats", Rows.laid_internal_strconv_leftcheats), ("internal/strconv.pow10Tab", Rows.laid_internal_strconv_pow10Tab)] = true := by
  unfold Program.listedFits
  rw [noOwnUnsafe]
  kernel_rfl
theorem tie3 : Tryz.prog.laidByTextLater [("math/bits.deBruijn32tab", Rows.laid_math_bits_deBruijn32tab), ("math/bits.deBruijn64tab", Rows.laid_math_bits_deBruijn64tab), ("internal/strconv.float32info", Rows.laid_internal_strconv_float32info), ("internal/strconv.float64info", Rows.laid_internal_strconv_float64info), ("internal/strconv.optimize", Rows.laid_internal_strconv_optimize), ("internal/strconv.powtab", Rows.laid_internal_strconv_powtab), ("internal/strconv.float64pow10", Rows.laid_internal_strconv_float64pow10), ("internal/strconv.float32pow10", Rows.laid_internal_strconv_float32pow10), ("internal/strconv.uint64pow10", Rows.laid_internal_strconv_uint64pow10), ("strconv.ErrRange", Rows.laid_strconv_ErrRange), ("strconv.ErrSyntax", Rows.laid_strconv_ErrSyntax), ("bytes.ErrTooLarge", Rows.laid_bytes_ErrTooLarge)] [.data, .data, .widerDeep, .widerDeep, .data, .data, .data, .data, .data, .sentinel, .sentinel, .sentinel] true :=
  Program.laidByTextLater.sub seatTie1 ["math/bits.deBruijn32tab", "math/bits.deBruijn64tab", "internal/strconv.float32info", "internal/strconv.float64info", "internal/strconv.optimize", "internal/strconv.powtab", "internal/strconv.float64pow10", "internal/strconv.float32pow10", "internal/strconv.uint64pow10", "strconv.ErrRange", "strconv.ErrSyntax", "bytes.ErrTooLarge"] (by kernel_rfl) (by kernel_rfl)
theorem fnReptLen_row_tie : Rows.fnReptLenRow.laidByTextAt .later Tryz.pinned [.data, .data, .widerDeep, .widerDeep, .data, .data, .data, .data, .data, .sentinel, .sentinel, .sentinel, .pinned, .pinned] true :=
  OpenClaim.laidByTextAt_pinned rfl rfl tie3 rfl rfl rfl rfl (fun y hy _e => by
    simp only [Rows.fnReptLenRow, List.zip_cons_cons, List.zip_nil_right, List.mem_cons, List.mem_nil_iff, or_false] at hy
    rcases hy with rfl | rfl | rfl | rfl | rfl | rfl | rfl | rfl | rfl | rfl | rfl | rfl | rfl | rfl
    · cases _e
    · cases _e
    · cases _e
    · cases _e
    · cases _e
    · cases _e
    · cases _e
    · cases _e
    · cases _e
    · cases _e
    · cases _e
    · cases _e
    · exact ⟨pin_laid_internal_strconv_leftcheats, by kernel_rfl⟩
    · exact ⟨pin_laid_internal_strconv_pow10Tab, by kernel_rfl⟩) fits3
theorem fnFactStepUpto_row_tie : Rows.fnFactStepUptoRow.laidByTextAt .later Tryz.pinned [.data, .data, .widerDeep, .widerDeep, .data, .data, .data, .data, .data, .sentinel, .sentinel, .pinned, .pinned] true :=
  OpenClaim.laidByTextAt_pinned rfl rfl tie rfl rfl rfl rfl (fun y hy _e => by
    simp only [Rows.fnFactStepUptoRow, List.zip_cons_cons, List.zip_nil_right, List.mem_cons, List.mem_nil_iff, or_false] at hy
    rcases hy with rfl | rfl | rfl | rfl | rfl | rfl | rfl | rfl | rfl | rfl | rfl | rfl | rfl
    · cases _e
    · cases _e
    · cases _e
    · cases _e
    · cases _e
    · cases _e
    · cases _e
    · cases _e
    · cases _e
    · cases _e
    · cases _e
    · exact ⟨pin_laid_internal_strconv_leftcheats, by kernel_rfl⟩
    · exact ⟨pin_laid_internal_strconv_pow10Tab, by kernel_rfl⟩) fits1
theorem fnXorFoldUpto_row_tie : Rows.fnXorFoldUptoRow.laidByTextAt .later Tryz.pinned [.data, .data, .widerDeep, .widerDeep, .data, .data, .data, .data, .data, .sentinel, .sentinel, .pinned, .pinned] true :=
  OpenClaim.laidByTextAt_pinned rfl rfl tie rfl rfl rfl rfl (fun y hy _e => by
    simp only [Rows.fnXorFoldUptoRow, List.zip_cons_cons, List.zip_nil_right, List.mem_cons, List.mem_nil_iff, or_false] at hy
    rcases hy with rfl | rfl | rfl | rfl | rfl | rfl | rfl | rfl | rfl | rfl | rfl | rfl | rfl
    · cases _e
    · cases _e
    · cases _e
    · cases _e
    · cases _e
    · cases _e
    · cases _e
    · cases _e
    · cases _e
    · cases _e
    · cases _e
    · exact ⟨pin_laid_internal_strconv_leftcheats, by kernel_rfl⟩
    · exact ⟨pin_laid_internal_strconv_pow10Tab, by kernel_rfl⟩) fits1
theorem fnBitsUpto_row_tie : Rows.fnBitsUptoRow.laidByTextAt .later Tryz.pinned [.data, .data, .widerDeep, .widerDeep, .data, .data, .data, .data, .data, .sentinel, .sentinel, .pinned, .pinned] true :=
  OpenClaim.laidByTextAt_pinned rfl rfl tie rfl rfl rfl rfl (fun y hy _e => by
    simp only [Rows.fnBitsUptoRow, List.zip_cons_cons, List.zip_nil_right, List.mem_cons, List.mem_nil_iff, or_false] at hy
    rcases hy with rfl | rfl | rfl | rfl | rfl | rfl | rfl | rfl | rfl | rfl | rfl | rfl | rfl
    · cases _e
    · cases _e
    · cases _e
    · cases _e
    · cases _e
    · cases _e
    · cases _e
    · cases _e
    · cases _e
    · cases _e
    · cases _e
    · exact ⟨pin_laid_internal_strconv_leftcheats, by kernel_rfl⟩
    · exact ⟨pin_laid_internal_strconv_pow10Tab, by kernel_rfl⟩) fits1
theorem fnModQuotientUpto_row_tie : Rows.fnModQuotientUptoRow.laidByTextAt .later Tryz.pinned [.data, .data, .widerDeep, .widerDeep, .data, .data, .data, .data, .data, .sentinel, .sentinel, .pinned, .pinned] true :=
  OpenClaim.laidByTextAt_pinned rfl rfl tie rfl rfl rfl rfl (fun y hy _e => by
    simp only [Rows.fnModQuotientUptoRow, List.zip_cons_cons, List.zip_nil_right, List.mem_cons, List.mem_nil_iff, or_false] at hy
    rcases hy with rfl | rfl | rfl | rfl | rfl | rfl | rfl | rfl | rfl | rfl | rfl | rfl | rfl
    · cases _e
    · cases _e
    · cases _e
    · cases _e
    · cases _e
    · cases _e
    · cases _e
    · cases _e
    · cases _e
    · cases _e
    · cases _e
    · exact ⟨pin_laid_internal_strconv_leftcheats, by kernel_rfl⟩
    · exact ⟨pin_laid_internal_strconv_pow10Tab, by kernel_rfl⟩) fits1
theorem fnSumPartsUpto_row_tie : Rows.fnSumPartsUptoRow.laidByTextAt .later Tryz.pinned [.data, .data, .widerDeep, .widerDeep, .data, .data, .data, .data, .data, .sentinel, .sentinel, .pinned, .pinned] true :=
  OpenClaim.laidByTextAt_pinned rfl rfl tie rfl rfl rfl rfl (fun y hy _e => by
    simp only [Rows.fnSumPartsUptoRow, List.zip_cons_cons, List.zip_nil_right, List.mem_cons, List.mem_nil_iff, or_false] at hy
    rcases hy with rfl | rfl | rfl | rfl | rfl | rfl | rfl | rfl | rfl | rfl | rfl | rfl | rfl
    · cases _e
    · cases _e
    · cases _e
    · cases _e
    · cases _e
    · cases _e
    · cases _e
    · cases _e
    · cases _e
    · cases _e
    · cases _e
    · exact ⟨pin_laid_internal_strconv_leftcheats, by kernel_rfl⟩
    · exact ⟨pin_laid_internal_strconv_pow10Tab, by kernel_rfl⟩) fits1
theorem fnUnitUpto_row_tie : Rows.fnUnitUptoRow.laidByTextAt .later Tryz.pinned [.data, .data, .widerDeep, .widerDeep, .data, .data, .data, .data, .data, .sentinel, .sentinel, .pinned, .pinned] true :=
  OpenClaim.laidByTextAt_pinned rfl rfl tie rfl rfl rfl rfl (fun y hy _e => by
    simp only [Rows.fnUnitUptoRow, List.zip_cons_cons, List.zip_nil_right, List.mem_cons, List.mem_nil_iff, or_false] at hy
    rcases hy with rfl | rfl | rfl | rfl | rfl | rfl | rfl | rfl | rfl | rfl | rfl | rfl | rfl
    · cases _e
    · cases _e
    · cases _e
    · cases _e
    · cases _e
    · cases _e
    · cases _e
    · cases _e
    · cases _e
    · cases _e
    · cases _e
    · exact ⟨pin_laid_internal_strconv_leftcheats, by kernel_rfl⟩
    · exact ⟨pin_laid_internal_strconv_pow10Tab, by kernel_rfl⟩) fits1
theorem fnEvenOddUpto_row_tie : Rows.fnEvenOddUptoRow.laidByTextAt .later Tryz.pinned [.data, .data, .widerDeep, .widerDeep, .data, .data, .data, .data, .data, .sentinel, .sentinel, .pinned, .pinned] true :=
  OpenClaim.laidByTextAt_pinned rfl rfl tie rfl rfl rfl rfl (fun y hy _e => by
    simp only [Rows.fnEvenOddUptoRow, List.zip_cons_cons, List.zip_nil_right, List.mem_cons, List.mem_nil_iff, or_false] at hy
    rcases hy with rfl | rfl | rfl | rfl | rfl | rfl | rfl | rfl | rfl | rfl | rfl | rfl | rfl
    · cases _e
    · cases _e
    · cases _e
    · cases _e
    · cases _e
    · cases _e
    · cases _e
    · cases _e
    · cases _e
    · cases _e
    · cases _e
    · exact ⟨pin_laid_internal_strconv_leftcheats, by kernel_rfl⟩
    · exact ⟨pin_laid_internal_strconv_pow10Tab, by kernel_rfl⟩) fits1
theorem fnLowerTwiceUpto_row_tie : Rows.fnLowerTwiceUptoRow.laidByTextAt .later Tryz.pinned [.data, .data, .data, .data, .data, .pinned, .pinned, .pinned, .pinned] true :=
  OpenClaim.laidByTextAt_pinned rfl rfl tie2 rfl rfl rfl rfl (fun y hy _e => by
    simp only [Rows.fnLowerTwiceUptoRow, List.zip_cons_cons, List.zip_nil_right, List.mem_cons, List.mem_nil_iff, or_false] at hy
    rcases hy with rfl | rfl | rfl | rfl | rfl | rfl | rfl | rfl | rfl
    · cases _e
    · cases _e
    · cases _e
    · cases _e
    · cases _e
    · exact ⟨pin_laid_internal_strconv_leftcheats, by kernel_rfl⟩
    · exact ⟨pin_laid_internal_strconv_pow10Tab, by kernel_rfl⟩
    · exact ⟨pin_laid_unicode_CaseRanges, by kernel_rfl⟩
    · exact ⟨pin_laid_unicode_utf8_first, by kernel_rfl⟩) fits2
theorem fnUpperTwiceUpto_row_tie : Rows.fnUpperTwiceUptoRow.laidByTextAt .later Tryz.pinned [.data, .data, .data, .data, .data, .pinned, .pinned, .pinned, .pinned] true :=
  OpenClaim.laidByTextAt_pinned rfl rfl tie2 rfl rfl rfl rfl (fun y hy _e => by
    simp only [Rows.fnUpperTwiceUptoRow, List.zip_cons_cons, List.zip_nil_right, List.mem_cons, List.mem_nil_iff, or_false] at hy
    rcases hy with rfl | rfl | rfl | rfl | rfl | rfl | rfl | rfl | rfl
    · cases _e
    · cases _e
    · cases _e
    · cases _e
    · cases _e
    · exact ⟨pin_laid_internal_strconv_leftcheats, by kernel_rfl⟩
    · exact ⟨pin_laid_internal_strconv_pow10Tab, by kernel_rfl⟩
    · exact ⟨pin_laid_unicode_CaseRanges, by kernel_rfl⟩
    · exact ⟨pin_laid_unicode_utf8_first, by kernel_rfl⟩) fits2
theorem fnGcdLcmUpto_row_tie : Rows.fnGcdLcmUptoRow.laidByTextAt .later Tryz.pinned [.data, .data, .widerDeep, .widerDeep, .data, .data, .data, .data, .data, .sentinel, .sentinel, .pinned, .pinned] true :=
  OpenClaim.laidByTextAt_pinned rfl rfl tie rfl rfl rfl rfl (fun y hy _e => by
    simp only [Rows.fnGcdLcmUptoRow, List.zip_cons_cons, List.zip_nil_right, List.mem_cons, List.mem_nil_iff, or_false] at hy
    rcases hy with rfl | rfl | rfl | rfl | rfl | rfl | rfl | rfl | rfl | rfl | rfl | rfl | rfl
    · cases _e
    · cases _e
    · cases _e
    · cases _e
    · cases _e
    · cases _e
    · cases _e
    · cases _e
    · cases _e
    · cases _e
    · cases _e
    · exact ⟨pin_laid_internal_strconv_leftcheats, by kernel_rfl⟩
    · exact ⟨pin_laid_internal_strconv_pow10Tab, by kernel_rfl⟩) fits1
theorem fnUpperLowerUpto_row_tie : Rows.fnUpperLowerUptoRow.laidByTextAt .later Tryz.pinned [.data, .data, .data, .data, .data, .pinned, .pinned, .pinned, .pinned] true :=
  OpenClaim.laidByTextAt_pinned rfl rfl tie2 rfl rfl rfl rfl (fun y hy _e => by
    simp only [Rows.fnUpperLowerUptoRow, List.zip_cons_cons, List.zip_nil_right, List.mem_cons, List.mem_nil_iff, or_false] at hy
    rcases hy with rfl | rfl | rfl | rfl | rfl | rfl | rfl | rfl | rfl
    · cases _e
    · cases _e
    · cases _e
    · cases _e
    · cases _e
    · exact ⟨pin_laid_internal_strconv_leftcheats, by kernel_rfl⟩
    · exact ⟨pin_laid_internal_strconv_pow10Tab, by kernel_rfl⟩
    · exact ⟨pin_laid_unicode_CaseRanges, by kernel_rfl⟩
    · exact ⟨pin_laid_unicode_utf8_first, by kernel_rfl⟩) fits2
theorem fnMorganUpto_row_tie : Rows.fnMorganUptoRow.laidByTextAt .later Tryz.pinned [.data, .data, .data, .data, .data, .pinned, .pinned, .pinned, .pinned] true :=
  OpenClaim.laidByTextAt_pinned rfl rfl tie2 rfl rfl rfl rfl (fun y hy _e => by
    simp only [Rows.fnMorganUptoRow, List.zip_cons_cons, List.zip_nil_right, List.mem_cons, List.mem_nil_iff, or_false] at hy
    rcases hy with rfl | rfl | rfl | rfl | rfl | rfl | rfl | rfl | rfl
    · cases _e
    · cases _e
    · cases _e
    · cases _e
    · cases _e
    · exact ⟨pin_laid_internal_strconv_leftcheats, by kernel_rfl⟩
    · exact ⟨pin_laid_internal_strconv_pow10Tab, by kernel_rfl⟩
    · exact ⟨pin_laid_unicode_CaseRanges, by kernel_rfl⟩
    · exact ⟨pin_laid_unicode_utf8_first, by kernel_rfl⟩) fits2
theorem fnMiddleUpto_row_tie : Rows.fnMiddleUptoRow.laidByTextAt .later Tryz.pinned [.data, .data, .widerDeep, .widerDeep, .data, .data, .data, .data, .data, .sentinel, .sentinel, .pinned, .pinned] true :=
  OpenClaim.laidByTextAt_pinned rfl rfl tie rfl rfl rfl rfl (fun y hy _e => by
    simp only [Rows.fnMiddleUptoRow, List.zip_cons_cons, List.zip_nil_right, List.mem_cons, List.mem_nil_iff, or_false] at hy
    rcases hy with rfl | rfl | rfl | rfl | rfl | rfl | rfl | rfl | rfl | rfl | rfl | rfl | rfl
    · cases _e
    · cases _e
    · cases _e
    · cases _e
    · cases _e
    · cases _e
    · cases _e
    · cases _e
    · cases _e
    · cases _e
    · cases _e
    · exact ⟨pin_laid_internal_strconv_leftcheats, by kernel_rfl⟩
    · exact ⟨pin_laid_internal_strconv_pow10Tab, by kernel_rfl⟩) fits1
theorem fnCharCodeUpto_row_tie : Rows.fnCharCodeUptoRow.laidByTextAt .later Tryz.pinned [.data, .data, .widerDeep, .widerDeep, .data, .data, .data, .data, .data, .sentinel, .sentinel, .pinned, .pinned] true :=
  OpenClaim.laidByTextAt_pinned rfl rfl tie rfl rfl rfl rfl (fun y hy _e => by
    simp only [Rows.fnCharCodeUptoRow, List.zip_cons_cons, List.zip_nil_right, List.mem_cons, List.mem_nil_iff, or_false] at hy
    rcases hy with rfl | rfl | rfl | rfl | rfl | rfl | rfl | rfl | rfl | rfl | rfl | rfl | rfl
    · cases _e
    · cases _e
    · cases _e
    · cases _e
    · cases _e
    · cases _e
    · cases _e
    · cases _e
    · cases _e
    · cases _e
    · cases _e
    · exact ⟨pin_laid_internal_strconv_leftcheats, by kernel_rfl⟩
    · exact ⟨pin_laid_internal_strconv_pow10Tab, by kernel_rfl⟩) fits1
theorem fnReptLenUpto_row_tie : Rows.fnReptLenUptoRow.laidByTextAt .later Tryz.pinned [.data, .data, .widerDeep, .widerDeep, .data, .data, .data, .data, .data, .sentinel, .sentinel, .sentinel, .pinned, .pinned] true :=
  OpenClaim.laidByTextAt_pinned rfl rfl tie3 rfl rfl rfl rfl (fun y hy _e => by
    simp only [Rows.fnReptLenUptoRow, List.zip_cons_cons, List.zip_nil_right, List.mem_cons, List.mem_nil_iff, or_false] at hy
    rcases hy with rfl | rfl | rfl | rfl | rfl | rfl | rfl | rfl | rfl | rfl | rfl | rfl | rfl | rfl
    · cases _e
    · cases _e
    · cases _e
    · cases _e
    · cases _e
    · cases _e
    · cases _e
    · cases _e
    · cases _e
    · cases _e
    · cases _e
    · cases _e
    · exact ⟨pin_laid_internal_strconv_leftcheats, by kernel_rfl⟩
    · exact ⟨pin_laid_internal_strconv_pow10Tab, by kernel_rfl⟩) fits3
end Go.Proofs.YtndabbepepbnmaaGreatDoor
