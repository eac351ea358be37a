/-
  DERIVED. GIVEN WITH THE SEED: THE PROGRAM's TIES (one call each: nine closed facts by the kernel) AND EACH ROW's TIE, after the 31st guide's Derived/Test/Toyas{Tie, Card}.lean. No idea stands in it: it is a product of the set-up. Laid BY PROGRAM, IN A SANDBOX (cutbox-door.mjs). By AI agents, Wed Nov 11 2026. No macro, syntax, notation, axiom, sorry.
-/
import Derived.Test.YbulkdcngDoorRows
import Derived.LaidByTextLater
import Derived.SevenTiedAt
import Derived.LaidSub
import Derived.LaidOnce
namespace Go.Proofs.YbulkdcngDoor
open Go
set_option maxRecDepth 100000
theorem seatTie1 : Ybad.prog.laidByTextLater [("math/bits.deBruijn32tab", Rows.laid_math_bits_deBruijn32tab), ("math/bits.deBruijn64tab", Rows.laid_math_bits_deBruijn64tab), ("internal/strconv.uint64pow10", Rows.laid_internal_strconv_uint64pow10), ("unicode/utf8.acceptRanges", Rows.laid_unicode_utf8_acceptRanges), ("strconv.ErrRange", Rows.laid_strconv_ErrRange), ("strconv.ErrSyntax", Rows.laid_strconv_ErrSyntax), ("example.com/holdfast/holdfast/internal/sigv4.queryParams", Rows.laid_example_com_holdfast_holdfast_internal_sigv4_queryParams), ("example.com/holdfast/holdfast/internal/sigv4.ErrMalformedQuery", Rows.laid_example_com_holdfast_holdfast_internal_sigv4_ErrMalformedQuery), ("example.com/holdfast/holdfast/internal/store.ErrInvalidPart", Rows.laid_example_com_holdfast_holdfast_internal_store_ErrInvalidPart), ("example.com/holdfast/holdfast/internal/store.ErrInvalidPartOrder", Rows.laid_example_com_holdfast_holdfast_internal_store_ErrInvalidPartOrder), ("example.com/holdfast/holdfast/internal/store.ErrObjectTooLarge", Rows.laid_example_com_holdfast_holdfast_internal_store_ErrObjectTooLarge), ("example.com/holdfast/holdfast/internal/store.ErrPartTooSmall", Rows.laid_example_com_holdfast_holdfast_internal_store_ErrPartTooSmall)] [.data, .data, .data, .data, .sentinel, .sentinel, .widerDeep, .sentinel, .sentinel, .sentinel, .sentinel, .sentinel] true :=
  Program.laidByTextLater_by_one 172 8 65 (by kernel_rfl) (by kernel_rfl) (by kernel_rfl) (by kernel_rfl) (by kernel_rfl) (by kernel_rfl) (fun _ _ => by kernel_rfl)
theorem pin_laid_unicode_utf8_first : Ybad.pinned.checked.prog.pinnedFits "unicode/utf8.first" = true := by kernel_rfl
theorem noOwnUnsafe : Ybad.pinned.checked.prog.headLifts.contains "ownunsafe" = false := by kernel_rfl
theorem tie : Ybad.prog.laidByTextLater [("example.com/holdfast/holdfast/internal/store.ErrInvalidPart", Rows.laid_example_com_holdfast_holdfast_internal_store_ErrInvalidPart), ("example.com/holdfast/holdfast/internal/store.ErrInvalidPartOrder", Rows.laid_example_com_holdfast_holdfast_internal_store_ErrInvalidPartOrder), ("example.com/holdfast/holdfast/internal/store.ErrObjectTooLarge", Rows.laid_example_com_holdfast_holdfast_internal_store_ErrObjectTooLarge), ("example.com/holdfast/holdfast/internal/store.ErrPartTooSmall", Rows.laid_example_com_holdfast_holdfast_internal_store_ErrPartTooSmall)] [.sentinel, .sentinel, .sentinel, .sentinel] true :=
  Program.laidByTextLater.sub seatTie1 ["example.com/holdfast/holdfast/internal/store.ErrInvalidPart", "example.com/holdfast/holdfast/internal/store.ErrInvalidPartOrder", "example.com/holdfast/holdfast/internal/store.ErrObjectTooLarge", "example.com/holdfast/holdfast/internal/store.ErrPartTooSmall"] (by kernel_rfl) (by kernel_rfl)
theorem lawS5193APick_row_tie : Rows.lawS5193APickRow.laidByTextAt .later Ybad.pinned [.sentinel, .sentinel, .sentinel, .sentinel] true :=
  OpenClaim.laidByTextAt_later rfl rfl tie noOwnUnsafe
theorem fits2 : Ybad.pinned.checked.prog.listedFits [("math/bits.deBruijn32tab", Rows.laid_math_bits_deBruijn32tab), ("math/bits.deBruijn64tab", Rows.laid_math_bits_deBruijn64tab), ("internal/strconv.uint64pow10", Rows.laid_internal_strconv_uint64pow10), ("unicode/utf8.acceptRanges", Rows.laid_unicode_utf8_acceptRanges), ("strconv.ErrRange", Rows.laid_strconv_ErrRange), ("strconv.ErrSyntax", Rows.laid_strconv_ErrSyntax), ("example.com/holdfast/holdfast/internal/sigv4.queryParams", Rows.laid_example_com_holdfast_holdfast_internal_sigv4_queryParams), ("example.com/holdfast/holdfast/internal/sigv4.ErrMalformedQuery", Rows.laid_example_com_holdfast_holdfast_internal_sigv4_ErrMalformedQuery), ("unicode/utf8.first", Rows.laid_unicode_utf8_first)] = true := by
  unfold Program.listedFits
  rw [noOwnUnsafe]
  kernel_rfl
theorem tie2 : Ybad.prog.laidByTextLater [("math/bits.deBruijn32tab", Rows.laid_math_bits_deBruijn32tab), ("math/bits.deBruijn64tab", Rows.laid_math_bits_deBruijn64tab), ("internal/strconv.uint64pow10", Rows.laid_internal_strconv_uint64pow10), ("unicode/utf8.acceptRanges", Rows.laid_unicode_utf8_acceptRanges), ("strconv.ErrRange", Rows.laid_strconv_ErrRange), ("strconv.ErrSyntax", Rows.laid_strconv_ErrSyntax), ("example.com/holdfast/holdfast/internal/sigv4.queryParams", Rows.laid_example_com_holdfast_holdfast_internal_sigv4_queryParams), ("example.com/holdfast/holdfast/internal/sigv4.ErrMalformedQuery", Rows.laid_example_com_holdfast_holdfast_internal_sigv4_ErrMalformedQuery)] [.data, .data, .data, .data, .sentinel, .sentinel, .widerDeep, .sentinel] true :=
  Program.laidByTextLater.sub seatTie1 ["math/bits.deBruijn32tab", "math/bits.deBruijn64tab", "internal/strconv.uint64pow10", "unicode/utf8.acceptRanges", "strconv.ErrRange", "strconv.ErrSyntax", "example.com/holdfast/holdfast/internal/sigv4.queryParams", "example.com/holdfast/holdfast/internal/sigv4.ErrMalformedQuery"] (by kernel_rfl) (by kernel_rfl)
theorem lawS5193CModel_row_tie : Rows.lawS5193CModelRow.laidByTextAt .later Ybad.pinned [.data, .data, .data, .data, .sentinel, .sentinel, .widerDeep, .sentinel, .pinned] true :=
  OpenClaim.laidByTextAt_pinned rfl rfl tie2 rfl rfl rfl rfl (fun y hy _e => by
    simp only [Rows.lawS5193CModelRow, List.zip_cons_cons, List.zip_nil_right, List.mem_cons, List.mem_nil_iff, or_false] at hy
    rcases hy with rfl | rfl | rfl | rfl | rfl | rfl | rfl | rfl | rfl
    · cases _e
    · cases _e
    · cases _e
    · cases _e
    · cases _e
    · cases _e
    · cases _e
    · cases _e
    · exact ⟨pin_laid_unicode_utf8_first, by kernel_rfl⟩) fits2
end Go.Proofs.YbulkdcngDoor
