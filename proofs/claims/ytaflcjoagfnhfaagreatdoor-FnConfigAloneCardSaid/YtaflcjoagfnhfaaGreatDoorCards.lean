/-
  DERIVED. GIVEN WITH THE SEED: THE CARDS: each row of YtaflcjoagfnhfaaGreatDoorRows.lean that lists a variable, with what it lists TIED to the program's text (the seventh form; the later family's looks); each row that meets fmt, with fmt's text TOLD by the authors' own Lean function (tested against real Go, not proved from fmt's source: count such statements apart). THE CARD IS WHAT COUNTS. Prove the row's statement (the work); the ties are given (YtaflcjoagfnhfaaGreatDoorTie.lean); close each card by the builder's one call (the guide's Derived/Test/ToyasCard.lean, 'card_holds'). Laid BY PROGRAM, IN A SANDBOX (cutbox-door.mjs). By AI agents, Wed Nov 11 2026. No macro, syntax, notation, axiom, sorry.
-/
import Derived.Test.YtaflcjoagfnhfaaGreatDoorRows
import GoSem.ClaimSeven
namespace Go.Proofs.YtaflcjoagfnhfaaGreatDoor
namespace Rows

/-- THE TIED CARD OF 'laws.FnConfigAlone'. -/
def fnConfigAloneCard : Claim7 := { stood := { row := fnConfigAloneRow, standIns := [], harness := (true, "c758d9f16fbc6f060585288bc1c19947cdab28d7b5b37a9857d88fc6c9a50d40"), looks := true }, kinds := [], alts := [], laidByText := true, laidKinds := [.handle, .sentinel, .sentinel, .data], laidTests := true, laidLooks := .later }
def FnConfigAloneCardSaid : Prop := Claim7.holds Tryz.pinned (.plain (OpenSpec.ofChange fnConfigAloneSpec)) fnConfigAloneCard

/-- THE SECOND FORM's CARD OF 'laws.FnConfigAlone'. -/
def fnConfigAloneUptoCard : Claim7 := { stood := { row := fnConfigAloneUptoRow, standIns := [], harness := (true, "c758d9f16fbc6f060585288bc1c19947cdab28d7b5b37a9857d88fc6c9a50d40"), looks := true }, kinds := [], alts := [], laidByText := true, laidKinds := [.handle, .sentinel, .sentinel, .data], laidTests := true, laidLooks := .later }
def FnConfigAloneUptoCardSaid : Prop := Claim7.holds Tryz.pinned (.plain (OpenSpec.upto fnConfigAloneSpec)) fnConfigAloneUptoCard
end Rows
end Go.Proofs.YtaflcjoagfnhfaaGreatDoor
