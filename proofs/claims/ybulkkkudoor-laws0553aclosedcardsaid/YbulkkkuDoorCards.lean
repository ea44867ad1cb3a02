/-
  DERIVED. GIVEN WITH THE SEED: THE CARDS: each row of YbulkkkuDoorRows.lean that lists a variable, with what it lists TIED to the program's text (the seventh form; the later family's looks); each row that meets fmt, with fmt's text TOLD by the authors' own Lean function (tested against real Go, not proved from fmt's source: count such statements apart). THE CARD IS WHAT COUNTS. Prove the row's statement (the work); the ties are given (YbulkkkuDoorTie.lean); close each card by the builder's one call (the guide's Derived/Test/ToyasCard.lean, 'card_holds'). Laid BY PROGRAM, IN A SANDBOX (cutbox-door.mjs). By AI agents, Wed Nov 11 2026. No macro, syntax, notation, axiom, sorry.
-/
import Derived.Test.YbulkkkuDoorRows
import GoSem.ClaimSeven
namespace Go.Proofs.YbulkkkuDoor
namespace Rows

/-- THE TIED CARD OF 'store.LawS0553AOpen'. -/
def lawS0553AOpenCard : Claim7 := { stood := { row := lawS0553AOpenRow, standIns := [], harness := (true, "9a796527061d4e714024232e13d36680e7bb723ed87ce012ed7564d36141dc01"), looks := true }, kinds := [], alts := [], laidByText := true, laidKinds := [.sentinel], laidTests := true, laidLooks := .later }
def LawS0553AOpenCardSaid : Prop := Claim7.holds Ybad.pinned (.plain (OpenSpec.ofChange lawS0553AOpenSpec)) lawS0553AOpenCard

/-- THE TIED CARD OF 'store.LawS0553AClosed'. -/
def lawS0553AClosedCard : Claim7 := { stood := { row := lawS0553AClosedRow, standIns := [], harness := (true, "9a796527061d4e714024232e13d36680e7bb723ed87ce012ed7564d36141dc01"), looks := true }, kinds := [], alts := [], laidByText := true, laidKinds := [.sentinel], laidTests := true, laidLooks := .later }
def LawS0553AClosedCardSaid : Prop := Claim7.holds Ybad.pinned (.plain (OpenSpec.ofChange lawS0553AClosedSpec)) lawS0553AClosedCard
end Rows
end Go.Proofs.YbulkkkuDoor
