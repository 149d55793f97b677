/-
  DERIVED. GIVEN WITH THE SEED: THE CARDS: each row of YtoofphhfealcaaaGreatDoorRows.lean that lists a variable, with what it lists TIED to the program's text (the seventh form; the later family's looks); each row that meets fmt, with fmt's text TOLD by the authors' own Lean function (tested against real Go, not proved from fmt's source: count such statements apart). THE CARD IS WHAT COUNTS. Prove the row's statement (the work); the ties are given (YtoofphhfealcaaaGreatDoorTie.lean); close each card by the builder's one call (the guide's Derived/Test/ToyasCard.lean, 'card_holds'). Laid BY PROGRAM, IN A SANDBOX (cutbox-door.mjs). By AI agents, Wed Nov 11 2026. No macro, syntax, notation, axiom, sorry.
-/
import Derived.Test.YtoofphhfealcaaaGreatDoorRows
import GoSem.ClaimSeven
namespace Go.Proofs.YtoofphhfealcaaaGreatDoor
namespace Rows

/-- THE TIED CARD OF 'laws.FnEcosystem'. -/
def fnEcosystemCard : Claim7 := { stood := { row := fnEcosystemRow, standIns := [], harness := (true, "368e00661bba74d92d5cbe9ad7d7bf039405868c2f57a9d803b8531348ec1a8e"), looks := true }, kinds := [], alts := [], laidByText := true, laidKinds := [.data, .data, .data, .sentinel, .listed, .data, .sentinel, .sentinel, .data, .data, .data, .data, .data, .sentinel, .sentinel, .pinned, .pinned], laidTests := true, laidLooks := .later }
def FnEcosystemCardSaid : Prop := Claim7.holds Tryz.pinned (.plain (OpenSpec.ofChange fnEcosystemSpec)) fnEcosystemCard

/-- THE TIED CARD OF 'laws.FnEcosystems'. -/
def fnEcosystemsCard : Claim7 := { stood := { row := fnEcosystemsRow, standIns := [], harness := (true, "368e00661bba74d92d5cbe9ad7d7bf039405868c2f57a9d803b8531348ec1a8e"), looks := true }, kinds := [], alts := [], laidByText := true, laidKinds := [.data, .data, .data, .sentinel, .listed, .data, .sentinel, .sentinel, .data, .data, .data, .data, .data, .sentinel, .sentinel, .pinned, .pinned], laidTests := true, laidLooks := .later }
def FnEcosystemsCardSaid : Prop := Claim7.holds Tryz.pinned (.plain (OpenSpec.ofChange fnEcosystemsSpec)) fnEcosystemsCard

/-- THE SECOND FORM's CARD OF 'laws.FnEcosystem'. -/
def fnEcosystemUptoCard : Claim7 := { stood := { row := fnEcosystemUptoRow, standIns := [], harness := (true, "368e00661bba74d92d5cbe9ad7d7bf039405868c2f57a9d803b8531348ec1a8e"), looks := true }, kinds := [], alts := [], laidByText := true, laidKinds := [.data, .data, .data, .sentinel, .listed, .data, .sentinel, .sentinel, .data, .data, .data, .data, .data, .sentinel, .sentinel, .pinned, .pinned], laidTests := true, laidLooks := .later }
def FnEcosystemUptoCardSaid : Prop := Claim7.holds Tryz.pinned (.plain (OpenSpec.upto fnEcosystemSpec)) fnEcosystemUptoCard

/-- THE SECOND FORM's CARD OF 'laws.FnEcosystems'. -/
def fnEcosystemsUptoCard : Claim7 := { stood := { row := fnEcosystemsUptoRow, standIns := [], harness := (true, "368e00661bba74d92d5cbe9ad7d7bf039405868c2f57a9d803b8531348ec1a8e"), looks := true }, kinds := [], alts := [], laidByText := true, laidKinds := [.data, .data, .data, .sentinel, .listed, .data, .sentinel, .sentinel, .data, .data, .data, .data, .data, .sentinel, .sentinel, .pinned, .pinned], laidTests := true, laidLooks := .later }
def FnEcosystemsUptoCardSaid : Prop := Claim7.holds Tryz.pinned (.plain (OpenSpec.upto fnEcosystemsSpec)) fnEcosystemsUptoCard
end Rows
end Go.Proofs.YtoofphhfealcaaaGreatDoor
