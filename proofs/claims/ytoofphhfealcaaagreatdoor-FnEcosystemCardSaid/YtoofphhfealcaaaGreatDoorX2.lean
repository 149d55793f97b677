/-
  THE ROW FnEcosystem: its witness.
-/
import Derived.Test.YtoofphhfealcaaaGreatDoorM7
namespace Go.Proofs.YtoofphhfealcaaaGreatDoor
open Go.ChangeShapes Go.WideShapes Go.ChangeAt Go.RowKit

/-- The witness's arguments. -/
def eargs : Array Value := #[.string ByteArray.empty, .string ByteArray.empty]
theorem ewit_v (os : Os) : ((World.laidAll Tryz.prog os Rows.fnEcosystemRow.laid).forCall (fun _ _ => 0) ⟨#[], eargs, []⟩).variablesZipB Tryz.prog = true := by kernel_rfl
theorem ewit_r (os : Os) : (((World.laidAll Tryz.prog os Rows.fnEcosystemRow.laid).forCall (fun _ _ => 0) ⟨#[], eargs, []⟩).heap.toList.drop Tryz.prog.globals.size).take ((begin Tryz.prog (fun _ _ => 0) default).world.heap.size - Tryz.prog.globals.size) =
      (begin Tryz.prog (fun _ _ => 0) default).world.heap.toList.drop Tryz.prog.globals.size := by kernel_rfl
theorem ewit_ok (os : Os) : Input.okWideB Tryz.prog ((World.laidAll Tryz.prog os Rows.fnEcosystemRow.laid).forCall (fun _ _ => 0) ⟨#[], eargs, []⟩) 3 ⟨#[], eargs, []⟩ = true := by kernel_rfl
theorem ewit_pre (os : Os) {H : Type} (enc : TypeId × Value → H) : Rows.fnEcosystemSpec.preB enc Tryz.prog Tryz.f3 Rows.fnEcosystemRow.domain false ((World.laidAll Tryz.prog os Rows.fnEcosystemRow.laid).forCall (fun _ _ => 0) ⟨#[], eargs, []⟩).memory eargs 8 = true := by kernel_rfl
theorem ewit_sz (os : Os) {H : Type} (enc : TypeId × Value → H) : Rows.fnEcosystemSpec.sizedB enc Tryz.prog Tryz.f3 false ((World.laidAll Tryz.prog os Rows.fnEcosystemRow.laid).forCall (fun _ _ => 0) ⟨#[], eargs, []⟩).memory eargs 8 = true := by kernel_rfl
theorem ewit_f (os : Os) : (World.holding Tryz.prog os ⟨#[], #[], []⟩).layFits Tryz.prog Rows.fnEcosystemRow.laid [] = true := by kernel_rfl
theorem ewit_i (os : Os) : (World.holding Tryz.prog os ⟨#[], #[], []⟩).layIfaces Tryz.prog Rows.fnEcosystemRow.laid (World.laidAll Tryz.prog os Rows.fnEcosystemRow.laid) = true := by kernel_rfl
end Go.Proofs.YtoofphhfealcaaaGreatDoor
