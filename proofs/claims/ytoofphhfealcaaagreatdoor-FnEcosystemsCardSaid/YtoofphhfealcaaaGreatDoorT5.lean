/-
  The row's tie: the listed variables hold what the program's own text lays.
-/
import Derived.Test.YtoofphhfealcaaaGreatDoorT2
import Derived.Test.YtoofphhfealcaaaGreatDoorT6
namespace Go.Proofs.YtoofphhfealcaaaGreatDoor
open Go
theorem ownTie : Tryz.prog.laidByTextLater tieL [.sentinel, .sentinel, .sentinel, .sentinel, .sentinel, .data, .data, .data, .data, .data, .data, .data, .data, .data, .listed] true :=
  Program.laidByTextLater_by_run 400 8 tie_w tie_v tie_r tie_k tie_g tie_n tie_d tie_1 tie_2
theorem pin_first : Tryz.pinned.checked.prog.pinnedFits "unicode/utf8.first" = true := by kernel_rfl
theorem pin_case : Tryz.pinned.checked.prog.pinnedFits "unicode.CaseRanges" = true := by kernel_rfl
theorem no_unsafe : Tryz.pinned.checked.prog.headLifts.contains "ownunsafe" = false := by kernel_rfl
theorem fits_ecos : Tryz.pinned.checked.prog.listedFits Rows.fnEcosystemsRow.laid = true := by
  unfold Program.listedFits
  rw [no_unsafe]
  kernel_rfl
theorem ecos_row_tie : Rows.fnEcosystemsRow.laidByTextAt .later Tryz.pinned [.sentinel, .sentinel, .sentinel, .sentinel, .sentinel, .data, .data, .data, .data, .data, .data, .data, .data, .pinned, .data, .listed, .pinned] true :=
  OpenClaim.laidByTextAt_pinned rfl rfl ownTie rfl rfl rfl rfl (fun y hy _e => by
    simp only [Rows.fnEcosystemsRow, List.zip_cons_cons, List.zip_nil_right, List.mem_cons, List.mem_nil_iff, or_false] at hy
    rcases hy with rfl | rfl | rfl | rfl | rfl | rfl | rfl | rfl | rfl | rfl | rfl | rfl | rfl | rfl | rfl | rfl | rfl
    · cases _e
    · cases _e
    · cases _e
    · cases _e
    · cases _e
    · cases _e
    · cases _e
    · cases _e
    · cases _e
    · cases _e
    · cases _e
    · cases _e
    · cases _e
    · exact ⟨pin_first, by kernel_rfl⟩
    · cases _e
    · cases _e
    · exact ⟨pin_case, by kernel_rfl⟩) fits_ecos
end Go.Proofs.YtoofphhfealcaaaGreatDoor
