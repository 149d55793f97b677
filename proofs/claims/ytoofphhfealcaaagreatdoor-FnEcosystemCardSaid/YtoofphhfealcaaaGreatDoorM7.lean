/-
  THE ROW FnEcosystems: its witness.
-/
import Derived.Test.YtoofphhfealcaaaGreatDoorM6
namespace Go.Proofs.YtoofphhfealcaaaGreatDoor
open Go.ChangeShapes Go.WideShapes Go.ChangeAt Go.RowKit

theorem size20 {W : World} (h : W.ShapedOpen Tryz.prog) : 20 ≤ W.heap.size := by
  have hz : (((begin Tryz.prog (fun _ _ => 0) default).world.heap[19]?).bind Obj.row?).isSome = true := by kernel_rfl
  have hg : decide (19 < Tryz.prog.globals.size) = true := by kernel_rfl
  obtain ⟨⟨zero, t⟩, h1⟩ := Option.isSome_iff_exists.1 hz
  obtain ⟨cs, h2, _⟩ := h.1 19 zero t (of_decide_eq_true hg) h1
  have := (Array.getElem?_eq_some_iff.1 h2).1
  omega
/-- The witness's arguments. -/
def wargs : Array Value := #[.int .u8 0, .int .u8 0, .string ByteArray.empty]
theorem wit_v (os : Os) : ((World.laidAll Tryz.prog os Rows.fnEcosystemsRow.laid).forCall (fun _ _ => 0) ⟨#[], wargs, []⟩).variablesZipB Tryz.prog = true := by kernel_rfl
theorem wit_r (os : Os) : (((World.laidAll Tryz.prog os Rows.fnEcosystemsRow.laid).forCall (fun _ _ => 0) ⟨#[], wargs, []⟩).heap.toList.drop Tryz.prog.globals.size).take ((begin Tryz.prog (fun _ _ => 0) default).world.heap.size - Tryz.prog.globals.size) =
      (begin Tryz.prog (fun _ _ => 0) default).world.heap.toList.drop Tryz.prog.globals.size := by kernel_rfl
theorem wit_ok (os : Os) : Input.okWideB Tryz.prog ((World.laidAll Tryz.prog os Rows.fnEcosystemsRow.laid).forCall (fun _ _ => 0) ⟨#[], wargs, []⟩) 4 ⟨#[], wargs, []⟩ = true := by kernel_rfl
theorem wit_pre (os : Os) {H : Type} (enc : TypeId × Value → H) : Rows.fnEcosystemsSpec.preB enc Tryz.prog Tryz.f4 Rows.fnEcosystemsRow.domain false ((World.laidAll Tryz.prog os Rows.fnEcosystemsRow.laid).forCall (fun _ _ => 0) ⟨#[], wargs, []⟩).memory wargs 8 = true := by kernel_rfl
theorem wit_sz (os : Os) {H : Type} (enc : TypeId × Value → H) : Rows.fnEcosystemsSpec.sizedB enc Tryz.prog Tryz.f4 false ((World.laidAll Tryz.prog os Rows.fnEcosystemsRow.laid).forCall (fun _ _ => 0) ⟨#[], wargs, []⟩).memory wargs 8 = true := by kernel_rfl
theorem wit_f (os : Os) : (World.holding Tryz.prog os ⟨#[], #[], []⟩).layFits Tryz.prog Rows.fnEcosystemsRow.laid [] = true := by kernel_rfl
theorem wit_i (os : Os) : (World.holding Tryz.prog os ⟨#[], #[], []⟩).layIfaces Tryz.prog Rows.fnEcosystemsRow.laid (World.laidAll Tryz.prog os Rows.fnEcosystemsRow.laid) = true := by kernel_rfl
end Go.Proofs.YtoofphhfealcaaaGreatDoor
