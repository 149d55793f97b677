/-
  The card's closed facts, one by one.
  THE ROW FnEcosystem: its closed facts, one by one.
-/
import Derived.Test.YtoofphhfealcaaaGreatDoorRows
import Derived.SevenTiedAt
import Derived.Test.YtoofphhfealcaaaGreatDoorT4
namespace Go.Proofs.YtoofphhfealcaaaGreatDoor
open Go
theorem ecard_wf : Rows.fnEcosystemRow.wfByText (OpenSpec.ofChange Rows.fnEcosystemSpec) = true := by kernel_rfl
theorem ecard_main : Tryz.pinned.checked.prog.mainIs = some (true, "368e00661bba74d92d5cbe9ad7d7bf039405868c2f57a9d803b8531348ec1a8e".toList) := by kernel_rfl
theorem ecard_fn : Tryz.prog.funcNamed "pub-primogeniture/laws.FnEcosystem" = some 3 := by kernel_rfl
theorem ecard_std : ([9, 9].all fun u => !Tryz.prog.wantsStandIn u) = true := by kernel_rfl
theorem ecard_looks : true = Tryz.pinned.checked.prog.looks [] := by kernel_rfl
theorem ecard_goes : false = Rows.fnEcosystemRow.goesBy Tryz.pinned.checked.prog := by kernel_rfl
end Go.Proofs.YtoofphhfealcaaaGreatDoor

namespace Go.Proofs.YtoofphhfealcaaaGreatDoor
open Go
theorem eco_j0 : (Rows.fnEcosystemRow.wf (OpenSpec.ofChange Rows.fnEcosystemSpec)) = true := by kernel_rfl
theorem eco_j1 : (laidOutB Tryz.prog) = true := by kernel_rfl
theorem eco_j2 : (mapsRowed Tryz.prog) = true := by kernel_rfl
theorem eco_j3 : (Tryz.f3.params.all (Tryz.prog.readableRec ·)) = true := by kernel_rfl
theorem eco_j4 : (namedTie Tryz.prog Rows.fnEcosystemRow.named Rows.fnEcosystemSpec.vars) = true := by kernel_rfl
theorem eco_j5 : ((Rows.fnEcosystemRow.stops == [])) = true := by kernel_rfl
theorem eco_j6 : ((Tryz.prog.stops == [])) = true := by kernel_rfl
theorem eco_j7 : ((Rows.fnEcosystemRow.knobs == [])) = true := by kernel_rfl
theorem eco_j8 : ((Tryz.prog.stopKnobs == [])) = true := by kernel_rfl
theorem eco_j9 : ((Rows.fnEcosystemRow.inPlace == Tryz.prog.inPlace 3)) = true := by kernel_rfl
theorem eco_j10 : ((Rows.fnEcosystemRow.unfollowed == Tryz.prog.unfollowed 3)) = true := by kernel_rfl
theorem eco_j11 : ((Rows.fnEcosystemRow.recurses == Tryz.prog.recurses 3)) = true := by kernel_rfl
theorem eco_j12 : ((Rows.fnEcosystemRow.named == Tryz.prog.varsNamed 3)) = true := by kernel_rfl
theorem eco_j13 : ((Rows.fnEcosystemRow.maps == (Tryz.f3.params.toList ++ Rows.fnEcosystemSpec.plain.varTypes Tryz.prog).any (Tryz.prog.mapsRec ·))) = true := by kernel_rfl
theorem eco_j14 : ((Rows.fnEcosystemRow.ifaces == (Tryz.f3.params.toList ++ Rows.fnEcosystemSpec.plain.varTypes Tryz.prog).any (Tryz.prog.ifacesRec ·))) = true := by kernel_rfl
theorem eco_j15 : ((Rows.fnEcosystemRow.mapsOut == Tryz.prog.mapsAmong Tryz.f3.resultTypes.toList)) = true := by kernel_rfl
theorem eco_j16 : ((Rows.fnEcosystemRow.loops == (Tryz.f3.params.toList ++ Rows.fnEcosystemSpec.plain.varTypes Tryz.prog).any (Tryz.prog.loopsFrom ·))) = true := by kernel_rfl
theorem eco_j17 : ((Rows.fnEcosystemRow.wideKeys == (Tryz.f3.params.toList ++ Rows.fnEcosystemSpec.plain.varTypes Tryz.prog ++ Tryz.f3.resultTypes.toList).any (Tryz.prog.wideKeysFrom ·))) = true := by kernel_rfl
theorem eco_j18 : (Rows.fnEcosystemSpec.vars.all (Tryz.prog.varReadable ·)) = true := by kernel_rfl
theorem eco_j19 : (Tryz.f3.resultTypes.all (fun t => Tryz.prog.readableRec t && decide (t < Tryz.prog.types.size))) = true := by kernel_rfl
theorem eco_j20 : ((Rows.fnEcosystemRow.ifacesOut == Tryz.f3.resultTypes.toList.any (Tryz.prog.ifacesRec ·))) = true := by kernel_rfl
theorem eco_j21 : ((Rows.fnEcosystemRow.loopsOut == Tryz.f3.resultTypes.toList.any (Tryz.prog.loopsFrom ·))) = true := by kernel_rfl
theorem eco_j22 : ((Rows.fnEcosystemRow.plainKeys == Tryz.prog.plainKeys)) = true := by kernel_rfl
theorem eco_j23 : (Rows.fnEcosystemRow.shortTexts.isNone) = true := by kernel_rfl
theorem eco_j24 : (Tryz.prog.stopsHeard) = true := by kernel_rfl
theorem eco_j25 : (Tryz.prog.mayEnter) = true := by kernel_rfl
theorem eco_j26 : ((Rows.fnEcosystemRow.lifted == Tryz.prog.liftsFinal)) = true := by kernel_rfl
theorem eco_j27 : ((Tryz.prog.make == some Rows.fnEcosystemRow.make)) = true := by kernel_rfl
theorem eco_j28 : ((Rows.fnEcosystemRow.kinds == (if Rows.fnEcosystemRow.domain.isEmpty then [] else Tryz.f3.params.toList.map fun t => match Tryz.prog.underlying t with | some (.int k) => some k | _ => none))) = true := by kernel_rfl
theorem eco_j29 : ((Rows.fnEcosystemRow.pinned == Rows.fnEcosystemRow.pinnedBy)) = true := by kernel_rfl
theorem eco_j30 : ((Rows.fnEcosystemRow.veiled == (Tryz.f3.params.toList ++ Rows.fnEcosystemSpec.plain.varTypes Tryz.prog ++ Tryz.f3.resultTypes.toList).any (Tryz.prog.veiledRec ·))) = true := by kernel_rfl
theorem eco_j31 : (Rows.fnEcosystemRow.veiledFits Tryz.prog Tryz.f3.params.toList (Tryz.f3.params.toList ++ Rows.fnEcosystemSpec.plain.varTypes Tryz.prog ++ Tryz.f3.resultTypes.toList)) = true := by kernel_rfl
set_option maxRecDepth 100000 in
theorem eco_facts : joinedFacts Tryz.prog 3 Tryz.f3 Rows.fnEcosystemSpec Rows.fnEcosystemRow = true := joined_of eco_j0 eco_j1 eco_j2 eco_j3 eco_j4 eco_j5 eco_j6 eco_j7 eco_j8 eco_j9 eco_j10 eco_j11 eco_j12 eco_j13 eco_j14 eco_j15 eco_j16 eco_j17 eco_j18 eco_j19 eco_j20 eco_j21 eco_j22 eco_j23 eco_j24 eco_j25 eco_j26 eco_j27 eco_j28 eco_j29 eco_j30 eco_j31
end Go.Proofs.YtoofphhfealcaaaGreatDoor
