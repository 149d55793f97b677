/-
  The program's tie: what the listed variables read as behind the door's run: no place is met twice.
-/
import Derived.Test.YtoofphhfealcaaaGreatDoorT1
namespace Go.Proofs.YtoofphhfealcaaaGreatDoor
open Go
theorem tie_2a : ∀ os tape, (DataW.laidRun Tryz.prog (varsWorld Tryz.prog 400 (varsId Tryz.prog) os tape).memory 8 (tieL.map (·.1))).map (fun x => decide x.2.Nodup) = some true := fun _ _ => by kernel_rfl
end Go.Proofs.YtoofphhfealcaaaGreatDoor
