/-
  THE CONDITION: what the listed variables hold gives the walks their globals.
-/
import Derived.Test.YtoofphhfealcaaaGreatDoorM5
import Derived.Test.YtoofphhfealcaaaGreatDoorRows
import Derived.ProofKit
import Derived.OpenShut
import Derived.ShutString
import Derived.LaidMore
import Derived.Lay
import Derived.Stop.Joined
import Derived.Stop.LaidErr
import Derived.Lib.LaidU8
namespace Go.Proofs.YtoofphhfealcaaaGreatDoor
open Go.ChangeShapes Go.WideShapes Go.ChangeAt Go.RowKit

theorem own : ownKnob Tryz.prog.godebug = none := by kernel_rfl
theorem star_es : "*" ++ "errors.errorString" = "*errors.errorString" := by decide
theorem row364 (u : TypeId) (h : Tryz.prog.typeName? 3 u = some "*errors.errorString") : u = 364 :=
  typeName_ptr_named (nm := "errors.errorString") (by rw [star_es]; kernel_rfl) (by kernel_rfl) (by decide) u (by rw [star_es]; exact h)
theorem cells392 : Tryz.prog.cellsOf 392 = 1 := by kernel_rfl
theorem cells9 : Tryz.prog.cellsOf 9 = 1 := by kernel_rfl
theorem cells5 : Tryz.prog.cellsOf 5 = 1 := by kernel_rfl
theorem cells153 : Tryz.prog.cellsOf 153 = 256 := by kernel_rfl

/-- A listed sentinel's cell. -/
theorem sent_cell {n : String} {text : List UInt8} {r : List (String × DataW Unit)} {W : World} {g : Nat} (h : laidMet Tryz.prog ((n, .iface "*errors.errorString" (.ptr (.agg [.lit (.string text)]))) :: r) W)
    (hg : Tryz.prog.globalNamed n = some g) (ht : (Tryz.prog.globals[g]?).map (·.type) = some 35) : ∃ a, W.cell? ⟨g, 0, none⟩ = some (.iface 364 (.pointer (some a))) := by
  obtain ⟨a0, s0, hv0, _, _, _⟩ := laid_sentinel h hg ht Tryz.underlying35 row364 Tryz.underlying364 Tryz.underlying392 rfl rfl Tryz.underlying9 cells392 cells9
  exact ⟨a0, by simpa using World.var?_cell hg hv0 0⟩
/-- A listed number's cell. -/
theorem int_cell {n : String} {z : Int} {W : World} {g : Nat} (h : Lib.VarReads Tryz.prog W n (.lit (.int .i64 z))) (hg : Tryz.prog.globalNamed n = some g) (ht : (Tryz.prog.globals[g]?).map (·.type) = some 3) :
    W.cell? ⟨g, 0, none⟩ = some (.int .i64 z) := by
  obtain ⟨g0, t0, cs, fuel, p, hg0, ht0, hv, hd⟩ := h
  obtain rfl := Option.some.inj (hg.symm.trans hg0)
  obtain rfl := Option.some.inj (ht.symm.trans ht0)
  obtain ⟨z', e1, e2, _⟩ := DataW.trod_int Tryz.underlying3 hd
  have hz : z = z' := by simp at e2; exact e2.1
  subst hz
  rw [World.var?_cell hg0 hv 0, ← Array.getElem?_toList, e1]
  rfl
theorem spaceData : Rows.laid_strings_asciiSpace = (Lib.tabData .u8 Lib.asciiSpaceTab : DataW Unit) := by kernel_rfl
theorem space_tab {W : World} (h : Lib.VarReads Tryz.prog W "strings.asciiSpace" Rows.laid_strings_asciiSpace) : Lib.TabIs Tryz.prog W "strings.asciiSpace" .u8 Lib.asciiSpaceTab := by
  rw [spaceData] at h
  obtain ⟨g, t, cs, fuel, p, hg, hty, hvar, hd⟩ := h
  obtain rfl := Option.some.inj (spc_named.symm.trans hg)
  obtain rfl := Option.some.inj ((show (Tryz.prog.globals[2]?).map (·.type) = some 153 by kernel_rfl).symm.trans hty)
  have hcs := Lib.cells_of_tab Tryz.underlying153 Tryz.underlying5 cells5 cells153 hd
  unfold Lib.TabIs
  rw [hvar, ← hcs]
theorem space_nums : ∀ i : Fin 256, Lib.asciiSpaceTab[i.val]? = some (if (9 ≤ i.val ∧ i.val ≤ 13) ∨ i.val = 32 then 1 else 0) := by decide +kernel
theorem space_cells {W : World} (h : Lib.TabIs Tryz.prog W "strings.asciiSpace" .u8 Lib.asciiSpaceTab) (i : Nat) (hi : i < 256) : W.cell? ⟨2, i, none⟩ = some (.int .u8 (if (9 ≤ i ∧ i ≤ 13) ∨ i = 32 then 1 else 0)) := by
  unfold Lib.TabIs at h
  rw [World.var?_cell spc_named h i, ← Array.getElem?_toList, List.getElem?_map, space_nums ⟨i, hi⟩]
  rfl
/-- What the listed variables give the walks. -/
theorem gt_of_laid {W : World} (hs : 20 ≤ W.heap.size) (h : laidMet Tryz.prog Rows.fnEcosystemsRow.laid W) : ∃ a ae ai au, Gt W a ae ai au := by
  have h1 := h.tail
  have h2 := h1.tail
  have h3 := h2.tail
  have h4 := h3.tail
  have h5 := h4.tail
  have h6 := h5.tail
  have h7 := h6.tail
  have h8 := h7.tail
  have h9 := h8.tail
  have h10 := h9.tail
  have h11 := h10.tail
  have h12 := h11.tail
  have h13 := h12.tail
  have h14 := h13.tail
  obtain ⟨au, c0⟩ := sent_cell h13 (g := 0) (by kernel_rfl) (by kernel_rfl)
  obtain ⟨ai, c1⟩ := sent_cell h14 (g := 1) (by kernel_rfl) (by kernel_rfl)
  obtain ⟨a, c3⟩ := sent_cell h3 (g := 3) (by kernel_rfl) (by kernel_rfl)
  obtain ⟨ae, c8⟩ := sent_cell h6 (g := 8) (by kernel_rfl) (by kernel_rfl)
  have ht := space_tab (Lib.laidMet.reads h (n := "strings.asciiSpace") (by simp [Rows.fnEcosystemsRow]))
  have i12 := int_cell (g := 12) (Lib.laidMet.reads h (n := "pub-primogeniture/pub/bigall.leafSize") (d := Rows.laid_pub_primogeniture_pub_bigall_leafSize) (by simp [Rows.fnEcosystemsRow])) (by kernel_rfl) (by kernel_rfl)
  have i17 := int_cell (g := 17) (Lib.laidMet.reads h (n := "pub-primogeniture/pub/bigall.divRecursiveThreshold") (d := Rows.laid_pub_primogeniture_pub_bigall_divRecursiveThreshold) (by simp [Rows.fnEcosystemsRow])) (by kernel_rfl) (by kernel_rfl)
  have i18 := int_cell (g := 18) (Lib.laidMet.reads h (n := "pub-primogeniture/pub/bigall.karatsubaThreshold") (d := Rows.laid_pub_primogeniture_pub_bigall_karatsubaThreshold) (by simp [Rows.fnEcosystemsRow])) (by kernel_rfl) (by kernel_rfl)
  have i15 := int_cell (g := 15) (Lib.laidMet.reads h (n := "pub-primogeniture/pub/bigall.basicSqrThreshold") (d := Rows.laid_pub_primogeniture_pub_bigall_basicSqrThreshold) (by simp [Rows.fnEcosystemsRow])) (by kernel_rfl) (by kernel_rfl)
  have i16 := int_cell (g := 16) (Lib.laidMet.reads h (n := "pub-primogeniture/pub/bigall.karatsubaSqrThreshold") (d := Rows.laid_pub_primogeniture_pub_bigall_karatsubaSqrThreshold) (by simp [Rows.fnEcosystemsRow])) (by kernel_rfl) (by kernel_rfl)
  exact ⟨a, ae, ai, au, ⟨⟨⟨c3, c8⟩, c1, c0, i12, i15, i16, i17, i18, space_cells ht, hs⟩, ht⟩⟩
end Go.Proofs.YtoofphhfealcaaaGreatDoor
