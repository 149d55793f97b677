/-
  The program's tie: each place that the listed variables' reading meets lies in a whole row.
-/
import Derived.Test.YtoofphhfealcaaaGreatDoorT3
namespace Go.Proofs.YtoofphhfealcaaaGreatDoor
open Go
theorem tie_2b : ∀ os tape, (DataW.laidRun Tryz.prog (varsWorld Tryz.prog 400 (varsId Tryz.prog) os tape).memory 8 (tieL.map (·.1))).map (fun x => laidRowsB Tryz.prog (varsWorld Tryz.prog 400 (varsId Tryz.prog) os tape).memory x.2) = some true := fun _ _ => by kernel_rfl
theorem map_and {α : Type} {o : Option α} {f g : α → Bool} (h1 : o.map f = some true) (h2 : o.map g = some true) : o.map (fun x => f x && g x) = some true := by
  cases o with
  | none => cases h1
  | some a =>
    simp only [Option.map_some, Option.some.injEq] at h1 h2 ⊢
    rw [h1, h2]
    rfl
theorem tie_2 (os : Os) (tape : Tape) : (DataW.laidRun Tryz.prog (varsWorld Tryz.prog 400 (varsId Tryz.prog) os tape).memory 8 (tieL.map (·.1))).map (fun x => decide x.2.Nodup && laidRowsB Tryz.prog (varsWorld Tryz.prog 400 (varsId Tryz.prog) os tape).memory x.2) = some true :=
  map_and (tie_2a os tape) (tie_2b os tape)
end Go.Proofs.YtoofphhfealcaaaGreatDoor
