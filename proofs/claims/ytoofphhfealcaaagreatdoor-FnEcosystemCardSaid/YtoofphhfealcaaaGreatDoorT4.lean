/-
  THE ROW FnEcosystems: its closed facts, one by one.
-/
import Derived.Test.YtoofphhfealcaaaGreatDoorRows
import Derived.ProofKit
import Derived.JoinedOf
namespace Go.Proofs.YtoofphhfealcaaaGreatDoor
open Go
theorem and_t {a b : Bool} (h1 : a = true) (h2 : b = true) : (a && b) = true := by rw [h1, h2]; rfl
/-- The closed facts of a row, one by one. -/
theorem joined_of {P : Program} {f : FuncId} {fn : Func} {s : ChangeSpec} {c : OpenClaim}
    (h0 : (c.wf (OpenSpec.ofChange s)) = true)
    (h1 : (laidOutB P) = true)
    (h2 : (mapsRowed P) = true)
    (h3 : (fn.params.all (P.readableRec ·)) = true)
    (h4 : (namedTie P c.named s.vars) = true)
    (h5 : ((c.stops == [])) = true)
    (h6 : ((P.stops == [])) = true)
    (h7 : ((c.knobs == [])) = true)
    (h8 : ((P.stopKnobs == [])) = true)
    (h9 : ((c.inPlace == P.inPlace f)) = true)
    (h10 : ((c.unfollowed == P.unfollowed f)) = true)
    (h11 : ((c.recurses == P.recurses f)) = true)
    (h12 : ((c.named == P.varsNamed f)) = true)
    (h13 : ((c.maps == (fn.params.toList ++ s.plain.varTypes P).any (P.mapsRec ·))) = true)
    (h14 : ((c.ifaces == (fn.params.toList ++ s.plain.varTypes P).any (P.ifacesRec ·))) = true)
    (h15 : ((c.mapsOut == P.mapsAmong fn.resultTypes.toList)) = true)
    (h16 : ((c.loops == (fn.params.toList ++ s.plain.varTypes P).any (P.loopsFrom ·))) = true)
    (h17 : ((c.wideKeys == (fn.params.toList ++ s.plain.varTypes P ++ fn.resultTypes.toList).any (P.wideKeysFrom ·))) = true)
    (h18 : (s.vars.all (P.varReadable ·)) = true)
    (h19 : (fn.resultTypes.all (fun t => P.readableRec t && decide (t < P.types.size))) = true)
    (h20 : ((c.ifacesOut == fn.resultTypes.toList.any (P.ifacesRec ·))) = true)
    (h21 : ((c.loopsOut == fn.resultTypes.toList.any (P.loopsFrom ·))) = true)
    (h22 : ((c.plainKeys == P.plainKeys)) = true)
    (h23 : (c.shortTexts.isNone) = true)
    (h24 : (P.stopsHeard) = true)
    (h25 : (P.mayEnter) = true)
    (h26 : ((c.lifted == P.liftsFinal)) = true)
    (h27 : ((P.make == some c.make)) = true)
    (h28 : ((c.kinds == (if c.domain.isEmpty then [] else fn.params.toList.map fun t => match P.underlying t with | some (.int k) => some k | _ => none))) = true)
    (h29 : ((c.pinned == c.pinnedBy)) = true)
    (h30 : ((c.veiled == (fn.params.toList ++ s.plain.varTypes P ++ fn.resultTypes.toList).any (P.veiledRec ·))) = true)
    (h31 : (c.veiledFits P fn.params.toList (fn.params.toList ++ s.plain.varTypes P ++ fn.resultTypes.toList)) = true)
    : joinedFacts P f fn s c = true := by
  unfold joinedFacts
  exact (and_t (and_t (and_t (and_t (and_t (and_t (and_t (and_t (and_t (and_t (and_t (and_t (and_t (and_t (and_t (and_t (and_t (and_t (and_t (and_t (and_t (and_t (and_t (and_t (and_t (and_t (and_t (and_t (and_t (and_t (and_t h0 h1) h2) h3) h4) h5) h6) h7) h8) h9) h10) h11) h12) h13) h14) h15) h16) h17) h18) h19) h20) h21) h22) h23) h24) h25) h26) h27) h28) h29) h30) h31)
theorem ecos_j0 : (Rows.fnEcosystemsRow.wf (OpenSpec.ofChange Rows.fnEcosystemsSpec)) = true := by kernel_rfl
theorem ecos_j1 : (laidOutB Tryz.prog) = true := by kernel_rfl
theorem ecos_j2 : (mapsRowed Tryz.prog) = true := by kernel_rfl
theorem ecos_j3 : (Tryz.f4.params.all (Tryz.prog.readableRec ·)) = true := by kernel_rfl
theorem ecos_j4 : (namedTie Tryz.prog Rows.fnEcosystemsRow.named Rows.fnEcosystemsSpec.vars) = true := by kernel_rfl
theorem ecos_j5 : ((Rows.fnEcosystemsRow.stops == [])) = true := by kernel_rfl
theorem ecos_j6 : ((Tryz.prog.stops == [])) = true := by kernel_rfl
theorem ecos_j7 : ((Rows.fnEcosystemsRow.knobs == [])) = true := by kernel_rfl
theorem ecos_j8 : ((Tryz.prog.stopKnobs == [])) = true := by kernel_rfl
theorem ecos_j9 : ((Rows.fnEcosystemsRow.inPlace == Tryz.prog.inPlace 4)) = true := by kernel_rfl
theorem ecos_j10 : ((Rows.fnEcosystemsRow.unfollowed == Tryz.prog.unfollowed 4)) = true := by kernel_rfl
theorem ecos_j11 : ((Rows.fnEcosystemsRow.recurses == Tryz.prog.recurses 4)) = true := by kernel_rfl
theorem ecos_j12 : ((Rows.fnEcosystemsRow.named == Tryz.prog.varsNamed 4)) = true := by kernel_rfl
theorem ecos_j13 : ((Rows.fnEcosystemsRow.maps == (Tryz.f4.params.toList ++ Rows.fnEcosystemsSpec.plain.varTypes Tryz.prog).any (Tryz.prog.mapsRec ·))) = true := by kernel_rfl
theorem ecos_j14 : ((Rows.fnEcosystemsRow.ifaces == (Tryz.f4.params.toList ++ Rows.fnEcosystemsSpec.plain.varTypes Tryz.prog).any (Tryz.prog.ifacesRec ·))) = true := by kernel_rfl
theorem ecos_j15 : ((Rows.fnEcosystemsRow.mapsOut == Tryz.prog.mapsAmong Tryz.f4.resultTypes.toList)) = true := by kernel_rfl
theorem ecos_j16 : ((Rows.fnEcosystemsRow.loops == (Tryz.f4.params.toList ++ Rows.fnEcosystemsSpec.plain.varTypes Tryz.prog).any (Tryz.prog.loopsFrom ·))) = true := by kernel_rfl
theorem ecos_j17 : ((Rows.fnEcosystemsRow.wideKeys == (Tryz.f4.params.toList ++ Rows.fnEcosystemsSpec.plain.varTypes Tryz.prog ++ Tryz.f4.resultTypes.toList).any (Tryz.prog.wideKeysFrom ·))) = true := by kernel_rfl
theorem ecos_j18 : (Rows.fnEcosystemsSpec.vars.all (Tryz.prog.varReadable ·)) = true := by kernel_rfl
theorem ecos_j19 : (Tryz.f4.resultTypes.all (fun t => Tryz.prog.readableRec t && decide (t < Tryz.prog.types.size))) = true := by kernel_rfl
theorem ecos_j20 : ((Rows.fnEcosystemsRow.ifacesOut == Tryz.f4.resultTypes.toList.any (Tryz.prog.ifacesRec ·))) = true := by kernel_rfl
theorem ecos_j21 : ((Rows.fnEcosystemsRow.loopsOut == Tryz.f4.resultTypes.toList.any (Tryz.prog.loopsFrom ·))) = true := by kernel_rfl
theorem ecos_j22 : ((Rows.fnEcosystemsRow.plainKeys == Tryz.prog.plainKeys)) = true := by kernel_rfl
theorem ecos_j23 : (Rows.fnEcosystemsRow.shortTexts.isNone) = true := by kernel_rfl
theorem ecos_j24 : (Tryz.prog.stopsHeard) = true := by kernel_rfl
theorem ecos_j25 : (Tryz.prog.mayEnter) = true := by kernel_rfl
theorem ecos_j26 : ((Rows.fnEcosystemsRow.lifted == Tryz.prog.liftsFinal)) = true := by kernel_rfl
theorem ecos_j27 : ((Tryz.prog.make == some Rows.fnEcosystemsRow.make)) = true := by kernel_rfl
theorem ecos_j28 : ((Rows.fnEcosystemsRow.kinds == (if Rows.fnEcosystemsRow.domain.isEmpty then [] else Tryz.f4.params.toList.map fun t => match Tryz.prog.underlying t with | some (.int k) => some k | _ => none))) = true := by kernel_rfl
theorem ecos_j29 : ((Rows.fnEcosystemsRow.pinned == Rows.fnEcosystemsRow.pinnedBy)) = true := by kernel_rfl
theorem ecos_j30 : ((Rows.fnEcosystemsRow.veiled == (Tryz.f4.params.toList ++ Rows.fnEcosystemsSpec.plain.varTypes Tryz.prog ++ Tryz.f4.resultTypes.toList).any (Tryz.prog.veiledRec ·))) = true := by kernel_rfl
theorem ecos_j31 : (Rows.fnEcosystemsRow.veiledFits Tryz.prog Tryz.f4.params.toList (Tryz.f4.params.toList ++ Rows.fnEcosystemsSpec.plain.varTypes Tryz.prog ++ Tryz.f4.resultTypes.toList)) = true := by kernel_rfl
theorem ecos_facts : joinedFacts Tryz.prog 4 Tryz.f4 Rows.fnEcosystemsSpec Rows.fnEcosystemsRow = true := joined_of ecos_j0 ecos_j1 ecos_j2 ecos_j3 ecos_j4 ecos_j5 ecos_j6 ecos_j7 ecos_j8 ecos_j9 ecos_j10 ecos_j11 ecos_j12 ecos_j13 ecos_j14 ecos_j15 ecos_j16 ecos_j17 ecos_j18 ecos_j19 ecos_j20 ecos_j21 ecos_j22 ecos_j23 ecos_j24 ecos_j25 ecos_j26 ecos_j27 ecos_j28 ecos_j29 ecos_j30 ecos_j31
end Go.Proofs.YtoofphhfealcaaaGreatDoor
