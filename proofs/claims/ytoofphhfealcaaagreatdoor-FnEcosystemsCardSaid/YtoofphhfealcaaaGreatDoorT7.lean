/-
  The card's closed facts, one by one.
-/
import Derived.Test.YtoofphhfealcaaaGreatDoorRows
import Derived.SevenTiedAt
namespace Go.Proofs.YtoofphhfealcaaaGreatDoor
open Go
theorem card_wf : Rows.fnEcosystemsRow.wfByText (OpenSpec.ofChange Rows.fnEcosystemsSpec) = true := by kernel_rfl
theorem card_main : Tryz.pinned.checked.prog.mainIs = some (true, "368e00661bba74d92d5cbe9ad7d7bf039405868c2f57a9d803b8531348ec1a8e".toList) := by kernel_rfl
theorem card_fn : Tryz.prog.funcNamed "pub-primogeniture/laws.FnEcosystems" = some 4 := by kernel_rfl
theorem card_std : ([5, 5, 9].all fun u => !Tryz.prog.wantsStandIn u) = true := by kernel_rfl
theorem card_looks : true = Tryz.pinned.checked.prog.looks [] := by kernel_rfl
theorem card_goes : false = Rows.fnEcosystemsRow.goesBy Tryz.pinned.checked.prog := by kernel_rfl
end Go.Proofs.YtoofphhfealcaaaGreatDoor
