/- The tied card, closed: the law's row, what it lists tied to the program's text. -/
import Derived.Test.YtaflcjoagfnhfaaGreatDoorZE
import Derived.Test.YtaflcjoagfnhfaaGreatDoorTie
import Derived.Test.YtaflcjoagfnhfaaGreatDoorCards
import Derived.SevenTiedAt
namespace Go.Proofs.YtaflcjoagfnhfaaGreatDoor
open Go

theorem fnConfigAlone_card : Rows.FnConfigAloneCardSaid :=
  Claim7.holds_tied_plain_at .later [] [.handle, .sentinel, .sentinel, .data] true (true, "c758d9f16fbc6f060585288bc1c19947cdab28d7b5b37a9857d88fc6c9a50d40") true
    fnConfigAlone_holds (fun _ h => by cases h) (by kernel_rfl) (fun _ h => by cases h) fnConfigAlone_row_tie rfl ⟨rfl, rfl⟩ (by kernel_rfl) rfl
    (fun f fn hf hfn => by
      obtain rfl : f = 3 := Option.some.inj ((show Tryz.prog.funcNamed "loop.example/pub-g03445/laws.FnConfigAlone" = some 3 by kernel_rfl).symm.trans hf) |>.symm
      obtain rfl : fn = Tryz.f3 := (Option.some.inj (Tryz.func3.symm.trans hfn)).symm
      exact ⟨by kernel_rfl, fun j t ht => by
        rw [Tryz.params3] at ht
        have hm : t ∈ [22, 5, 5, 23, 22, 5] := by simpa using Array.mem_of_getElem? ht
        have hall : ([22, 5, 5, 23, 22, 5].all fun u => !Tryz.prog.wantsStandIn u) = true := by kernel_rfl
        exact (show Tryz.prog.wantsStandIn t = false by simpa using List.all_eq_true.1 hall t hm)⟩)
    (by kernel_rfl)
#print axioms fnConfigAlone_card
end Go.Proofs.YtaflcjoagfnhfaaGreatDoor
