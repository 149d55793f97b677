/-
  PROVED: FnEcosystemsCardSaid: whatever the sort, the place and the tail, the law FnEcosystems answers true and leaves its arguments as they were.
  CONDITIONS: the listed package-level variables hold what the program's own text lays in them; that is tied by the given text of the ties. Nothing else is assumed.
-/
import Derived.Test.YtoofphhfealcaaaGreatDoorM8
import Derived.Test.YtoofphhfealcaaaGreatDoorTie
import Derived.Test.YtoofphhfealcaaaGreatDoorT7
import Derived.Test.YtoofphhfealcaaaGreatDoorCards
namespace Go.Proofs.YtoofphhfealcaaaGreatDoor
open Go
theorem ecos_card : Rows.FnEcosystemsCardSaid :=
  Claim7.holds_tied_plain_at .later [] [.data, .data, .data, .sentinel, .listed, .data, .sentinel, .sentinel, .data, .data, .data, .data, .data, .sentinel, .sentinel, .pinned, .pinned] true (true, "368e00661bba74d92d5cbe9ad7d7bf039405868c2f57a9d803b8531348ec1a8e") true
    ecos_holds (fun _ h => by cases h) card_wf (fun _ h => by cases h) fnEcosystems_row_tie rfl ⟨rfl, rfl⟩ card_main rfl
    (fun f fn hf hfn => by
      obtain rfl : f = 4 := Option.some.inj (card_fn.symm.trans hf) |>.symm
      obtain rfl : fn = Tryz.f4 := (Option.some.inj (Tryz.func4.symm.trans hfn)).symm
      exact ⟨card_looks, fun j t ht => by
        rw [Tryz.params4] at ht
        have hm : t ∈ [5, 5, 9] := by simpa using Array.mem_of_getElem? ht
        exact (show Tryz.prog.wantsStandIn t = false by simpa using List.all_eq_true.1 card_std t hm)⟩)
    card_goes
#print axioms ecos_card
end Go.Proofs.YtoofphhfealcaaaGreatDoor
