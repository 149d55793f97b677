/-
  DERIVED. GIVEN WITH THE SEED: THE PROGRAM's TIES (one call each: nine closed facts by the kernel) AND EACH ROW's TIE, after the 31st guide's Derived/Test/Toyas{Tie, Card}.lean. No idea stands in it: it is a product of the set-up. Laid BY PROGRAM, IN A SANDBOX (cutbox-door.mjs). By AI agents, Wed Nov 11 2026. No macro, syntax, notation, axiom, sorry.
-/
import Derived.Test.YtoofphhfealcaaaGreatDoorRows
import Derived.LaidByTextLater
import Derived.SevenTiedAt
import Derived.LaidSub
import Derived.LaidOnce
namespace Go.Proofs.YtoofphhfealcaaaGreatDoor
open Go
set_option maxRecDepth 100000
theorem seatTie1 : Tryz.prog.laidByTextLater [("math/bits.deBruijn32tab", Rows.laid_math_bits_deBruijn32tab), ("math/bits.deBruijn64tab", Rows.laid_math_bits_deBruijn64tab), ("unicode/utf8.acceptRanges", Rows.laid_unicode_utf8_acceptRanges), ("io.EOF", Rows.laid_io_EOF), ("unicode.White_Space", Rows.laid_unicode_White_Space), ("strings.asciiSpace", Rows.laid_strings_asciiSpace), ("pub-primogeniture/pub/bigall.errNoDigits", Rows.laid_pub_primogeniture_pub_bigall_errNoDigits), ("pub-primogeniture/pub/bigall.errInvalSep", Rows.laid_pub_primogeniture_pub_bigall_errInvalSep), ("pub-primogeniture/pub/bigall.leafSize", Rows.laid_pub_primogeniture_pub_bigall_leafSize), ("pub-primogeniture/pub/bigall.divRecursiveThreshold", Rows.laid_pub_primogeniture_pub_bigall_divRecursiveThreshold), ("pub-primogeniture/pub/bigall.karatsubaThreshold", Rows.laid_pub_primogeniture_pub_bigall_karatsubaThreshold), ("pub-primogeniture/pub/bigall.basicSqrThreshold", Rows.laid_pub_primogeniture_pub_bigall_basicSqrThreshold), ("pub-primogeniture/pub/bigall.karatsubaSqrThreshold", Rows.laid_pub_primogeniture_pub_bigall_karatsubaSqrThreshold), ("pub-primogeniture/pub/scalibr/semantic.ErrUnsupportedEcosystem", Rows.laid_pub_primogeniture_pub_scalibr_semantic_ErrUnsupportedEcosystem), ("pub-primogeniture/pub/scalibr/semantic.ErrInvalidVersion", Rows.laid_pub_primogeniture_pub_scalibr_semantic_ErrInvalidVersion)] [.data, .data, .data, .sentinel, .listed, .data, .sentinel, .sentinel, .data, .data, .data, .data, .data, .sentinel, .sentinel] true :=
  Program.laidByTextLater_by_one 168 8 257 (by kernel_rfl) (by kernel_rfl) (by kernel_rfl) (by kernel_rfl) (by kernel_rfl) (by kernel_rfl) (fun _ _ => by kernel_rfl)
theorem pin_laid_unicode_CaseRanges : Tryz.pinned.checked.prog.pinnedFits "unicode.CaseRanges" = true := by kernel_rfl
theorem pin_laid_unicode_utf8_first : Tryz.pinned.checked.prog.pinnedFits "unicode/utf8.first" = true := by kernel_rfl
theorem noOwnUnsafe : Tryz.pinned.checked.prog.headLifts.contains "ownunsafe" = false := by kernel_rfl
theorem fits1 : Tryz.pinned.checked.prog.listedFits [("math/bits.deBruijn32tab", Rows.laid_math_bits_deBruijn32tab), ("math/bits.deBruijn64tab", Rows.laid_math_bits_deBruijn64tab), ("unicode/utf8.acceptRanges", Rows.laid_unicode_utf8_acceptRanges), ("io.EOF", Rows.laid_io_EOF), ("unicode.White_Space", Rows.laid_unicode_White_Space), ("strings.asciiSpace", Rows.laid_strings_asciiSpace), ("pub-primogeniture/pub/bigall.errNoDigits", Rows.laid_pub_primogeniture_pub_bigall_errNoDigits), ("pub-primogeniture/pub/bigall.errInvalSep", Rows.laid_pub_primogeniture_pub_bigall_errInvalSep), ("pub-primogeniture/pub/bigall.leafSize", Rows.laid_pub_primogeniture_pub_bigall_leafSize), ("pub-primogeniture/pub/bigall.divRecursiveThreshold", Rows.laid_pub_primogeniture_pub_bigall_divRecursiveThreshold), ("pub-primogeniture/pub/bigall.karatsubaThreshold", Rows.laid_pub_primogeniture_pub_bigall_karatsubaThreshold), ("pub-primogeniture/pub/bigall.basicSqrThreshold", Rows.laid_pub_primogeniture_pub_bigall_basicSqrThreshold), ("pub-primogeniture/pub/bigall.karatsubaSqrThreshold", Rows.laid_pub_primogeniture_pub_bigall_karatsubaSqrThreshold), ("pub-primogeniture/pub/scalibr/semantic.ErrUnsupportedEcosystem", Rows.laid_pub_primogeniture_pub_scalibr_semantic_ErrUnsupportedEcosystem), ("pub-primogeniture/pub/scalibr/semantic.ErrInvalidVersion", Rows.laid_pub_primogeniture_pub_scalibr_semantic_ErrInvalidVersion), ("unicode.CaseRanges", Rows.laid_unicode_CaseRanges), ("unicode/utf8.first", Rows.laid_unicode_utf8_first)] = true := by
  unfold Program.listedFits
  rw [noOwnUnsafe]
  kernel_rfl
theorem tie : Tryz.prog.laidByTextLater [("math/bits.deBruijn32tab", Rows.laid_math_bits_deBruijn32tab), ("math/bits.deBruijn64tab", Rows.laid_math_bits_deBruijn64tab), ("unicode/utf8.acceptRanges", Rows.laid_unicode_utf8_acceptRanges), ("io.EOF", Rows.laid_io_EOF), ("unicode.White_Space", Rows.laid_unicode_White_Space), ("strings.asciiSpace", Rows.laid_strings_asciiSpace), ("pub-primogeniture/pub/bigall.errNoDigits", Rows.laid_pub_primogeniture_pub_bigall_errNoDigits), ("pub-primogeniture/pub/bigall.errInvalSep", Rows.laid_pub_primogeniture_pub_bigall_errInvalSep), ("pub-primogeniture/pub/bigall.leafSize", Rows.laid_pub_primogeniture_pub_bigall_leafSize), ("pub-primogeniture/pub/bigall.divRecursiveThreshold", Rows.laid_pub_primogeniture_pub_bigall_divRecursiveThreshold), ("pub-primogeniture/pub/bigall.karatsubaThreshold", Rows.laid_pub_primogeniture_pub_bigall_karatsubaThreshold), ("pub-primogeniture/pub/bigall.basicSqrThreshold", Rows.laid_pub_primogeniture_pub_bigall_basicSqrThreshold), ("pub-primogeniture/pub/bigall.karatsubaSqrThreshold", Rows.laid_pub_primogeniture_pub_bigall_karatsubaSqrThreshold), ("pub-primogeniture/pub/scalibr/semantic.ErrUnsupportedEcosystem", Rows.laid_pub_primogeniture_pub_scalibr_semantic_ErrUnsupportedEcosystem), ("pub-primogeniture/pub/scalibr/semantic.ErrInvalidVersion", Rows.laid_pub_primogeniture_pub_scalibr_semantic_ErrInvalidVersion)] [.data, .data, .data, .sentinel, .listed, .data, .sentinel, .sentinel, .data, .data, .data, .data, .data, .sentinel, .sentinel] true :=
  Program.laidByTextLater.sub seatTie1 ["math/bits.deBruijn32tab", "math/bits.deBruijn64tab", "unicode/utf8.acceptRanges", "io.EOF", "unicode.White_Space", "strings.asciiSpace", "pub-primogeniture/pub/bigall.errNoDigits", "pub-primogeniture/pub/bigall.errInvalSep", "pub-primogeniture/pub/bigall.leafSize", "pub-primogeniture/pub/bigall.divRecursiveThreshold", "pub-primogeniture/pub/bigall.karatsubaThreshold", "pub-primogeniture/pub/bigall.basicSqrThreshold", "pub-primogeniture/pub/bigall.karatsubaSqrThreshold", "pub-primogeniture/pub/scalibr/semantic.ErrUnsupportedEcosystem", "pub-primogeniture/pub/scalibr/semantic.ErrInvalidVersion"] (by kernel_rfl) (by kernel_rfl)
theorem fnEcosystem_row_tie : Rows.fnEcosystemRow.laidByTextAt .later Tryz.pinned [.data, .data, .data, .sentinel, .listed, .data, .sentinel, .sentinel, .data, .data, .data, .data, .data, .sentinel, .sentinel, .pinned, .pinned] true :=
  OpenClaim.laidByTextAt_pinned rfl rfl tie rfl rfl rfl rfl (fun y hy _e => by
    simp only [Rows.fnEcosystemRow, List.zip_cons_cons, List.zip_nil_right, List.mem_cons, List.mem_nil_iff, or_false] at hy
    rcases hy with rfl | rfl | rfl | rfl | rfl | rfl | rfl | rfl | rfl | rfl | rfl | rfl | rfl | rfl | rfl | rfl | rfl
    · cases _e
    · cases _e
    · cases _e
    · cases _e
    · cases _e
    · cases _e
    · cases _e
    · cases _e
    · cases _e
    · cases _e
    · cases _e
    · cases _e
    · cases _e
    · cases _e
    · cases _e
    · exact ⟨pin_laid_unicode_CaseRanges, by kernel_rfl⟩
    · exact ⟨pin_laid_unicode_utf8_first, by kernel_rfl⟩) fits1
theorem fnEcosystems_row_tie : Rows.fnEcosystemsRow.laidByTextAt .later Tryz.pinned [.data, .data, .data, .sentinel, .listed, .data, .sentinel, .sentinel, .data, .data, .data, .data, .data, .sentinel, .sentinel, .pinned, .pinned] true :=
  OpenClaim.laidByTextAt_pinned rfl rfl tie rfl rfl rfl rfl (fun y hy _e => by
    simp only [Rows.fnEcosystemsRow, List.zip_cons_cons, List.zip_nil_right, List.mem_cons, List.mem_nil_iff, or_false] at hy
    rcases hy with rfl | rfl | rfl | rfl | rfl | rfl | rfl | rfl | rfl | rfl | rfl | rfl | rfl | rfl | rfl | rfl | rfl
    · cases _e
    · cases _e
    · cases _e
    · cases _e
    · cases _e
    · cases _e
    · cases _e
    · cases _e
    · cases _e
    · cases _e
    · cases _e
    · cases _e
    · cases _e
    · cases _e
    · cases _e
    · exact ⟨pin_laid_unicode_CaseRanges, by kernel_rfl⟩
    · exact ⟨pin_laid_unicode_utf8_first, by kernel_rfl⟩) fits1
theorem fnEcosystemUpto_row_tie : Rows.fnEcosystemUptoRow.laidByTextAt .later Tryz.pinned [.data, .data, .data, .sentinel, .listed, .data, .sentinel, .sentinel, .data, .data, .data, .data, .data, .sentinel, .sentinel, .pinned, .pinned] true :=
  OpenClaim.laidByTextAt_pinned rfl rfl tie rfl rfl rfl rfl (fun y hy _e => by
    simp only [Rows.fnEcosystemUptoRow, List.zip_cons_cons, List.zip_nil_right, List.mem_cons, List.mem_nil_iff, or_false] at hy
    rcases hy with rfl | rfl | rfl | rfl | rfl | rfl | rfl | rfl | rfl | rfl | rfl | rfl | rfl | rfl | rfl | rfl | rfl
    · cases _e
    · cases _e
    · cases _e
    · cases _e
    · cases _e
    · cases _e
    · cases _e
    · cases _e
    · cases _e
    · cases _e
    · cases _e
    · cases _e
    · cases _e
    · cases _e
    · cases _e
    · exact ⟨pin_laid_unicode_CaseRanges, by kernel_rfl⟩
    · exact ⟨pin_laid_unicode_utf8_first, by kernel_rfl⟩) fits1
theorem fnEcosystemsUpto_row_tie : Rows.fnEcosystemsUptoRow.laidByTextAt .later Tryz.pinned [.data, .data, .data, .sentinel, .listed, .data, .sentinel, .sentinel, .data, .data, .data, .data, .data, .sentinel, .sentinel, .pinned, .pinned] true :=
  OpenClaim.laidByTextAt_pinned rfl rfl tie rfl rfl rfl rfl (fun y hy _e => by
    simp only [Rows.fnEcosystemsUptoRow, List.zip_cons_cons, List.zip_nil_right, List.mem_cons, List.mem_nil_iff, or_false] at hy
    rcases hy with rfl | rfl | rfl | rfl | rfl | rfl | rfl | rfl | rfl | rfl | rfl | rfl | rfl | rfl | rfl | rfl | rfl
    · cases _e
    · cases _e
    · cases _e
    · cases _e
    · cases _e
    · cases _e
    · cases _e
    · cases _e
    · cases _e
    · cases _e
    · cases _e
    · cases _e
    · cases _e
    · cases _e
    · cases _e
    · exact ⟨pin_laid_unicode_CaseRanges, by kernel_rfl⟩
    · exact ⟨pin_laid_unicode_utf8_first, by kernel_rfl⟩) fits1
end Go.Proofs.YtoofphhfealcaaaGreatDoor
