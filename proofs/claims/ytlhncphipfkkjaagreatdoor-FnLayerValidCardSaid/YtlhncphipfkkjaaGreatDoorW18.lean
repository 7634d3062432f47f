/- The card FnLayerValidCardSaid is proved: the row, its listed package variables tied to the text of the program; conditions: none besides the cells of the card. -/
import Derived.Test.YtlhncphipfkkjaaGreatDoorW17
import Derived.Test.YtlhncphipfkkjaaGreatDoorCards
import Derived.Test.YtlhncphipfkkjaaGreatDoorTie
import Derived.SevenTiedAt
/- The tied card of 'FnLayerValid': the row, its listed package variables tied to the program's text; conditions: none besides the card's own cells. -/
namespace Go.Proofs.YtlhncphipfkkjaaGreatDoor
open Go
theorem fnLayerValid_card : Rows.FnLayerValidCardSaid :=
  Claim7.holds_tied_plain_at .later [] [.data, .data, .data, .sentinel, .sentinel, .sentinel, .sentinel, .sentinel, .sentinel, .sentinel] true (true, "d1b1b43cc6bbec35b558d7b212acb812ec84219ed2ac98cb953fe0edaf56e299") true
    fnLayerValid_holds (fun _ h => by cases h) (by kernel_rfl) (fun _ h => by cases h) fnLayerValid_row_tie rfl ⟨rfl, rfl⟩ (by kernel_rfl) rfl
    (fun f fn hf hfn => by
      obtain rfl : f = 3 := Option.some.inj (named3.symm.trans hf) |>.symm
      obtain rfl : fn = Tryz.f3 := (Option.some.inj (Tryz.func3.symm.trans hfn)).symm
      exact ⟨by kernel_rfl, fun j t ht => by
        rw [Tryz.params3] at ht
        have hm : t ∈ [22, 9, 5, 5] := by simpa using Array.mem_of_getElem? ht
        have hall : ([22, 9, 5, 5].all fun u => !Tryz.prog.wantsStandIn u) = true := by kernel_rfl
        exact (show Tryz.prog.wantsStandIn t = false by simpa using List.all_eq_true.1 hall t hm)⟩)
    (by kernel_rfl)
#print axioms fnLayerValid_card
end Go.Proofs.YtlhncphipfkkjaaGreatDoor
