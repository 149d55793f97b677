/-
  The program's tie: what the listed variables read as behind the door's run.
-/
import Derived.Test.YtoofphhfealcaaaGreatDoorT1
namespace Go.Proofs.YtoofphhfealcaaaGreatDoor
open Go
theorem tie_1 : ∀ os tape, (DataW.laidRun Tryz.prog (varsWorld Tryz.prog 400 (varsId Tryz.prog) os tape).memory 8 (tieL.map (·.1))).map (·.1) = some tieL := fun _ _ => by kernel_rfl
end Go.Proofs.YtoofphhfealcaaaGreatDoor
