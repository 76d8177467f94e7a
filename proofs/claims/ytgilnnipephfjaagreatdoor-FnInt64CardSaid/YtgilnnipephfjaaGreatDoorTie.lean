/-
  DERIVED. GIVEN WITH THE SEED: THE PROGRAM's TIES (one call each: nine closed facts by the kernel) AND EACH ROW's TIE, after the 31st guide's Derived/Test/Toyas{Tie, Card}.lean. No idea stands in it: it is a product of the set-up. Laid BY PROGRAM, IN A SANDBOX (cutbox-door.mjs). By AI agents, Wed Nov 11 2026. No macro, syntax, notation, axiom, sorry.
-/
import Derived.Test.YtgilnnipephfjaaGreatDoorRows
import Derived.LaidByTextLater
import Derived.SevenTiedAt
import Derived.LaidSub
import Derived.LaidOnce
namespace Go.Proofs.YtgilnnipephfjaaGreatDoor
open Go
set_option maxRecDepth 100000
theorem seatTie1 : Tryz.prog.laidByTextLater [("math/bits.deBruijn32tab", Rows.laid_math_bits_deBruijn32tab), ("math/bits.deBruijn64tab", Rows.laid_math_bits_deBruijn64tab), ("internal/strconv.uint64pow10", Rows.laid_internal_strconv_uint64pow10), ("unicode/utf8.acceptRanges", Rows.laid_unicode_utf8_acceptRanges), ("strconv.ErrRange", Rows.laid_strconv_ErrRange), ("strconv.ErrSyntax", Rows.laid_strconv_ErrSyntax), ("io.EOF", Rows.laid_io_EOF), ("pub-gyrfalcon/pub/bigall.errNoDigits", Rows.laid_pub_gyrfalcon_pub_bigall_errNoDigits), ("pub-gyrfalcon/pub/bigall.errInvalSep", Rows.laid_pub_gyrfalcon_pub_bigall_errInvalSep), ("pub-gyrfalcon/pub/bigall.leafSize", Rows.laid_pub_gyrfalcon_pub_bigall_leafSize), ("pub-gyrfalcon/pub/bigall.divRecursiveThreshold", Rows.laid_pub_gyrfalcon_pub_bigall_divRecursiveThreshold), ("pub-gyrfalcon/pub/bigall.karatsubaThreshold", Rows.laid_pub_gyrfalcon_pub_bigall_karatsubaThreshold), ("pub-gyrfalcon/pub/bigall.basicSqrThreshold", Rows.laid_pub_gyrfalcon_pub_bigall_basicSqrThreshold), ("pub-gyrfalcon/pub/bigall.karatsubaSqrThreshold", Rows.laid_pub_gyrfalcon_pub_bigall_karatsubaSqrThreshold), ("pub-gyrfalcon/pub/apd.BaseContext", Rows.laid_pub_gyrfalcon_pub_apd_BaseContext)] [.data, .data, .data, .data, .sentinel, .sentinel, .sentinel, .sentinel, .sentinel, .data, .data, .data, .data, .data, .widerDeep] true :=
  Program.laidByTextLater_by_one 154 8 65 (by kernel_rfl) (by kernel_rfl) (by kernel_rfl) (by kernel_rfl) (by kernel_rfl) (by kernel_rfl) (fun _ _ => by kernel_rfl)
theorem pin_laid_unicode_CaseRanges : Tryz.pinned.checked.prog.pinnedFits "unicode.CaseRanges" = true := by kernel_rfl
theorem pin_laid_unicode_utf8_first : Tryz.pinned.checked.prog.pinnedFits "unicode/utf8.first" = true := by kernel_rfl
theorem noOwnUnsafe : Tryz.pinned.checked.prog.headLifts.contains "ownunsafe" = false := by kernel_rfl
theorem fits1 : Tryz.pinned.checked.prog.listedFits [("math/bits.deBruijn32tab", Rows.laid_math_bits_deBruijn32tab), ("math/bits.deBruijn64tab", Rows.laid_math_bits_deBruijn64tab), ("internal/strconv.uint64pow10", Rows.laid_internal_strconv_uint64pow10), ("unicode/utf8.acceptRanges", Rows.laid_unicode_utf8_acceptRanges), ("strconv.ErrRange", Rows.laid_strconv_ErrRange), ("strconv.ErrSyntax", Rows.laid_strconv_ErrSyntax), ("io.EOF", Rows.laid_io_EOF), ("pub-gyrfalcon/pub/bigall.errNoDigits", Rows.laid_pub_gyrfalcon_pub_bigall_errNoDigits), ("pub-gyrfalcon/pub/bigall.errInvalSep", Rows.laid_pub_gyrfalcon_pub_bigall_errInvalSep), ("pub-gyrfalcon/pub/bigall.leafSize", Rows.laid_pub_gyrfalcon_pub_bigall_leafSize), ("pub-gyrfalcon/pub/bigall.divRecursiveThreshold", Rows.laid_pub_gyrfalcon_pub_bigall_divRecursiveThreshold), ("pub-gyrfalcon/pub/bigall.karatsubaThreshold", Rows.laid_pub_gyrfalcon_pub_bigall_karatsubaThreshold), ("pub-gyrfalcon/pub/bigall.basicSqrThreshold", Rows.laid_pub_gyrfalcon_pub_bigall_basicSqrThreshold), ("pub-gyrfalcon/pub/bigall.karatsubaSqrThreshold", Rows.laid_pub_gyrfalcon_pub_bigall_karatsubaSqrThreshold), ("pub-gyrfalcon/pub/apd.BaseContext", Rows.laid_pub_gyrfalcon_pub_apd_BaseContext), ("unicode.CaseRanges", Rows.laid_unicode_CaseRanges), ("unicode/utf8.first", Rows.laid_unicode_utf8_first)] = true := by
  unfold Program.listedFits
  rw [noOwnUnsafe]
  kernel_rfl
theorem tie : Tryz.prog.laidByTextLater [("math/bits.deBruijn32tab", Rows.laid_math_bits_deBruijn32tab), ("math/bits.deBruijn64tab", Rows.laid_math_bits_deBruijn64tab), ("internal/strconv.uint64pow10", Rows.laid_internal_strconv_uint64pow10), ("unicode/utf8.acceptRanges", Rows.laid_unicode_utf8_acceptRanges), ("strconv.ErrRange", Rows.laid_strconv_ErrRange), ("strconv.ErrSyntax", Rows.laid_strconv_ErrSyntax), ("io.EOF", Rows.laid_io_EOF), ("pub-gyrfalcon/pub/bigall.errNoDigits", Rows.laid_pub_gyrfalcon_pub_bigall_errNoDigits), ("pub-gyrfalcon/pub/bigall.errInvalSep", Rows.laid_pub_gyrfalcon_pub_bigall_errInvalSep), ("pub-gyrfalcon/pub/bigall.leafSize", Rows.laid_pub_gyrfalcon_pub_bigall_leafSize), ("pub-gyrfalcon/pub/bigall.divRecursiveThreshold", Rows.laid_pub_gyrfalcon_pub_bigall_divRecursiveThreshold), ("pub-gyrfalcon/pub/bigall.karatsubaThreshold", Rows.laid_pub_gyrfalcon_pub_bigall_karatsubaThreshold), ("pub-gyrfalcon/pub/bigall.basicSqrThreshold", Rows.laid_pub_gyrfalcon_pub_bigall_basicSqrThreshold), ("pub-gyrfalcon/pub/bigall.karatsubaSqrThreshold", Rows.laid_pub_gyrfalcon_pub_bigall_karatsubaSqrThreshold), ("pub-gyrfalcon/pub/apd.BaseContext", Rows.laid_pub_gyrfalcon_pub_apd_BaseContext)] [.data, .data, .data, .data, .sentinel, .sentinel, .sentinel, .sentinel, .sentinel, .data, .data, .data, .data, .data, .widerDeep] true :=
  Program.laidByTextLater.sub seatTie1 ["math/bits.deBruijn32tab", "math/bits.deBruijn64tab", "internal/strconv.uint64pow10", "unicode/utf8.acceptRanges", "strconv.ErrRange", "strconv.ErrSyntax", "io.EOF", "pub-gyrfalcon/pub/bigall.errNoDigits", "pub-gyrfalcon/pub/bigall.errInvalSep", "pub-gyrfalcon/pub/bigall.leafSize", "pub-gyrfalcon/pub/bigall.divRecursiveThreshold", "pub-gyrfalcon/pub/bigall.karatsubaThreshold", "pub-gyrfalcon/pub/bigall.basicSqrThreshold", "pub-gyrfalcon/pub/bigall.karatsubaSqrThreshold", "pub-gyrfalcon/pub/apd.BaseContext"] (by kernel_rfl) (by kernel_rfl)
theorem fnParseTraps_row_tie : Rows.fnParseTrapsRow.laidByTextAt .later Tryz.pinned [.data, .data, .data, .data, .sentinel, .sentinel, .sentinel, .sentinel, .sentinel, .data, .data, .data, .data, .data, .widerDeep, .pinned, .pinned] true :=
  OpenClaim.laidByTextAt_pinned rfl rfl tie rfl rfl rfl rfl (fun y hy _e => by
    simp only [Rows.fnParseTrapsRow, List.zip_cons_cons, List.zip_nil_right, List.mem_cons, List.mem_nil_iff, or_false] at hy
    rcases hy with rfl | rfl | rfl | rfl | rfl | rfl | rfl | rfl | rfl | rfl | rfl | rfl | rfl | rfl | rfl | rfl | rfl
    · cases _e
    · cases _e
    · cases _e
    · cases _e
    · cases _e
    · cases _e
    · cases _e
    · cases _e
    · cases _e
    · cases _e
    · cases _e
    · cases _e
    · cases _e
    · cases _e
    · cases _e
    · exact ⟨pin_laid_unicode_CaseRanges, by kernel_rfl⟩
    · exact ⟨pin_laid_unicode_utf8_first, by kernel_rfl⟩) fits1
theorem fnInt64_row_tie : Rows.fnInt64Row.laidByTextAt .later Tryz.pinned [.data, .data, .data, .data, .sentinel, .sentinel, .sentinel, .sentinel, .sentinel, .data, .data, .data, .data, .data, .widerDeep, .pinned, .pinned] true :=
  OpenClaim.laidByTextAt_pinned rfl rfl tie rfl rfl rfl rfl (fun y hy _e => by
    simp only [Rows.fnInt64Row, List.zip_cons_cons, List.zip_nil_right, List.mem_cons, List.mem_nil_iff, or_false] at hy
    rcases hy with rfl | rfl | rfl | rfl | rfl | rfl | rfl | rfl | rfl | rfl | rfl | rfl | rfl | rfl | rfl | rfl | rfl
    · cases _e
    · cases _e
    · cases _e
    · cases _e
    · cases _e
    · cases _e
    · cases _e
    · cases _e
    · cases _e
    · cases _e
    · cases _e
    · cases _e
    · cases _e
    · cases _e
    · cases _e
    · exact ⟨pin_laid_unicode_CaseRanges, by kernel_rfl⟩
    · exact ⟨pin_laid_unicode_utf8_first, by kernel_rfl⟩) fits1
theorem fnDecompose_row_tie : Rows.fnDecomposeRow.laidByTextAt .later Tryz.pinned [.data, .data, .data, .data, .sentinel, .sentinel, .sentinel, .sentinel, .sentinel, .data, .data, .data, .data, .data, .widerDeep, .pinned, .pinned] true :=
  OpenClaim.laidByTextAt_pinned rfl rfl tie rfl rfl rfl rfl (fun y hy _e => by
    simp only [Rows.fnDecomposeRow, List.zip_cons_cons, List.zip_nil_right, List.mem_cons, List.mem_nil_iff, or_false] at hy
    rcases hy with rfl | rfl | rfl | rfl | rfl | rfl | rfl | rfl | rfl | rfl | rfl | rfl | rfl | rfl | rfl | rfl | rfl
    · cases _e
    · cases _e
    · cases _e
    · cases _e
    · cases _e
    · cases _e
    · cases _e
    · cases _e
    · cases _e
    · cases _e
    · cases _e
    · cases _e
    · cases _e
    · cases _e
    · cases _e
    · exact ⟨pin_laid_unicode_CaseRanges, by kernel_rfl⟩
    · exact ⟨pin_laid_unicode_utf8_first, by kernel_rfl⟩) fits1
theorem fnParseTrapsUpto_row_tie : Rows.fnParseTrapsUptoRow.laidByTextAt .later Tryz.pinned [.data, .data, .data, .data, .sentinel, .sentinel, .sentinel, .sentinel, .sentinel, .data, .data, .data, .data, .data, .widerDeep, .pinned, .pinned] true :=
  OpenClaim.laidByTextAt_pinned rfl rfl tie rfl rfl rfl rfl (fun y hy _e => by
    simp only [Rows.fnParseTrapsUptoRow, List.zip_cons_cons, List.zip_nil_right, List.mem_cons, List.mem_nil_iff, or_false] at hy
    rcases hy with rfl | rfl | rfl | rfl | rfl | rfl | rfl | rfl | rfl | rfl | rfl | rfl | rfl | rfl | rfl | rfl | rfl
    · cases _e
    · cases _e
    · cases _e
    · cases _e
    · cases _e
    · cases _e
    · cases _e
    · cases _e
    · cases _e
    · cases _e
    · cases _e
    · cases _e
    · cases _e
    · cases _e
    · cases _e
    · exact ⟨pin_laid_unicode_CaseRanges, by kernel_rfl⟩
    · exact ⟨pin_laid_unicode_utf8_first, by kernel_rfl⟩) fits1
theorem fnInt64Upto_row_tie : Rows.fnInt64UptoRow.laidByTextAt .later Tryz.pinned [.data, .data, .data, .data, .sentinel, .sentinel, .sentinel, .sentinel, .sentinel, .data, .data, .data, .data, .data, .widerDeep, .pinned, .pinned] true :=
  OpenClaim.laidByTextAt_pinned rfl rfl tie rfl rfl rfl rfl (fun y hy _e => by
    simp only [Rows.fnInt64UptoRow, List.zip_cons_cons, List.zip_nil_right, List.mem_cons, List.mem_nil_iff, or_false] at hy
    rcases hy with rfl | rfl | rfl | rfl | rfl | rfl | rfl | rfl | rfl | rfl | rfl | rfl | rfl | rfl | rfl | rfl | rfl
    · cases _e
    · cases _e
    · cases _e
    · cases _e
    · cases _e
    · cases _e
    · cases _e
    · cases _e
    · cases _e
    · cases _e
    · cases _e
    · cases _e
    · cases _e
    · cases _e
    · cases _e
    · exact ⟨pin_laid_unicode_CaseRanges, by kernel_rfl⟩
    · exact ⟨pin_laid_unicode_utf8_first, by kernel_rfl⟩) fits1
theorem fnDecomposeUpto_row_tie : Rows.fnDecomposeUptoRow.laidByTextAt .later Tryz.pinned [.data, .data, .data, .data, .sentinel, .sentinel, .sentinel, .sentinel, .sentinel, .data, .data, .data, .data, .data, .widerDeep, .pinned, .pinned] true :=
  OpenClaim.laidByTextAt_pinned rfl rfl tie rfl rfl rfl rfl (fun y hy _e => by
    simp only [Rows.fnDecomposeUptoRow, List.zip_cons_cons, List.zip_nil_right, List.mem_cons, List.mem_nil_iff, or_false] at hy
    rcases hy with rfl | rfl | rfl | rfl | rfl | rfl | rfl | rfl | rfl | rfl | rfl | rfl | rfl | rfl | rfl | rfl | rfl
    · cases _e
    · cases _e
    · cases _e
    · cases _e
    · cases _e
    · cases _e
    · cases _e
    · cases _e
    · cases _e
    · cases _e
    · cases _e
    · cases _e
    · cases _e
    · cases _e
    · cases _e
    · exact ⟨pin_laid_unicode_CaseRanges, by kernel_rfl⟩
    · exact ⟨pin_laid_unicode_utf8_first, by kernel_rfl⟩) fits1
end Go.Proofs.YtgilnnipephfjaaGreatDoor
