import Derived.Test.YbulkcfvqDoorProbes
import Derived.Test.YbulkcfvqDoorTie
import Derived.Test.YbulkcfvqDoorCards
import Derived.SevenTiedAt
namespace Go.Proofs.YbulkcfvqDoor
open Go

theorem lawS4098AProbes_card : Rows.LawS4098AProbesCardSaid :=
  Claim7.holds_tied_plain_at .later [] [.data, .data, .data] true Rows.lawS4098AProbesCard.stood.harness false
    lawS4098AProbes.over (fun _ h => by cases h) (by kernel_rfl) (fun _ h => by cases h) lawS4098AProbes_row_tie rfl ⟨rfl, rfl⟩ (by kernel_rfl) rfl
    (fun f fn hf hfn => by
      obtain rfl : f = 3 := Option.some.inj ((show Ybad.prog.funcNamed Rows.lawS4098AProbesRow.func = some 3 by kernel_rfl).symm.trans hf) |>.symm
      obtain rfl : fn = Ybad.f3 := (Option.some.inj (Ybad.func3.symm.trans hfn)).symm
      exact ⟨by kernel_rfl, fun j t ht => by
        rw [Ybad.params3] at ht
        have hm : t ∈ [24] := by simpa using Array.mem_of_getElem? ht
        have hall : ([24].all fun u => !Ybad.prog.wantsStandIn u) = true := by kernel_rfl
        exact (show Ybad.prog.wantsStandIn t = false by simpa using List.all_eq_true.1 hall t hm)⟩)
    (by kernel_rfl)
end Go.Proofs.YbulkcfvqDoor
