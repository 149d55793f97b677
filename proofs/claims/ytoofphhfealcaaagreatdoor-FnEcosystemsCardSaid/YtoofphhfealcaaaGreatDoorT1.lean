/-
  The program's tie, fact by fact: what the listed variables hold when the program's own text has laid them. Each closed fact is a theorem of its own, so that the kernel's store is emptied between them.
-/
import Derived.Test.YtoofphhfealcaaaGreatDoorRows
import Derived.LaidByTextLater
import Derived.SevenTiedAt
namespace Go.Proofs.YtoofphhfealcaaaGreatDoor
open Go
/-- The listed variables that the door's run lays, with their data. -/
def tieL : List (String × DataW Unit) := [("pub-primogeniture/pub/scalibr/semantic.ErrUnsupportedEcosystem", Rows.laid_pub_primogeniture_pub_scalibr_semantic_ErrUnsupportedEcosystem), ("pub-primogeniture/pub/scalibr/semantic.ErrInvalidVersion", Rows.laid_pub_primogeniture_pub_scalibr_semantic_ErrInvalidVersion), ("io.EOF", Rows.laid_io_EOF), ("pub-primogeniture/pub/bigall.errInvalSep", Rows.laid_pub_primogeniture_pub_bigall_errInvalSep), ("pub-primogeniture/pub/bigall.errNoDigits", Rows.laid_pub_primogeniture_pub_bigall_errNoDigits), ("math/bits.deBruijn32tab", Rows.laid_math_bits_deBruijn32tab), ("math/bits.deBruijn64tab", Rows.laid_math_bits_deBruijn64tab), ("pub-primogeniture/pub/bigall.leafSize", Rows.laid_pub_primogeniture_pub_bigall_leafSize), ("pub-primogeniture/pub/bigall.divRecursiveThreshold", Rows.laid_pub_primogeniture_pub_bigall_divRecursiveThreshold), ("pub-primogeniture/pub/bigall.karatsubaThreshold", Rows.laid_pub_primogeniture_pub_bigall_karatsubaThreshold), ("pub-primogeniture/pub/bigall.basicSqrThreshold", Rows.laid_pub_primogeniture_pub_bigall_basicSqrThreshold), ("pub-primogeniture/pub/bigall.karatsubaSqrThreshold", Rows.laid_pub_primogeniture_pub_bigall_karatsubaSqrThreshold), ("strings.asciiSpace", Rows.laid_strings_asciiSpace), ("unicode/utf8.acceptRanges", Rows.laid_unicode_utf8_acceptRanges), ("unicode.White_Space", Rows.laid_unicode_White_Space)]
theorem tie_w : Tryz.prog.worded (varsWordLater true) = true := by kernel_rfl
theorem tie_v : Tryz.prog.worded (varsWordLater !true) = false := by kernel_rfl
theorem tie_r : Tryz.prog.worded rootWordLater = true := by kernel_rfl
theorem tie_k : tieL.map (fun x => Tryz.prog.kindOfLater x.1) = ([.sentinel, .sentinel, .sentinel, .sentinel, .sentinel, .data, .data, .data, .data, .data, .data, .data, .data, .data, .listed] : List LaidKind).map some := by kernel_rfl
theorem tie_g : (Tryz.prog.funcNamed "gosem.cut.vars").isSome = true := by kernel_rfl
theorem tie_n : varsNamedLaterB Tryz.prog (varsId Tryz.prog) tieL = true := by kernel_rfl
theorem tie_d : ∀ os tape, varsDone Tryz.prog 400 (varsId Tryz.prog) os tape = true := fun _ _ => by kernel_rfl
end Go.Proofs.YtoofphhfealcaaaGreatDoor
