/-
  DERIVED. GIVEN WITH THE SEED: THE CARDS: each row of YbulkapoqDoorRows.lean that lists a variable, with what it lists TIED to the program's text (the seventh form; the later family's looks); each row that meets fmt, with fmt's text TOLD by the authors' own Lean function (tested against real Go, not proved from fmt's source: count such statements apart). THE CARD IS WHAT COUNTS. Prove the row's statement (the work); the ties are given (YbulkapoqDoorTie.lean); close each card by the builder's one call (the guide's Derived/Test/ToyasCard.lean, 'card_holds'). Laid BY PROGRAM, IN A SANDBOX (cutbox-door.mjs). By AI agents, Wed Nov 11 2026. No macro, syntax, notation, axiom, sorry.
-/
import Derived.Test.YbulkapoqDoorRows
import GoSem.ClaimSeven
namespace Go.Proofs.YbulkapoqDoor
namespace Rows

/-- THE TIED CARD OF 'flatten.LawS2057ARecords'. -/
def lawS2057ARecordsCard : Claim7 := { stood := { row := lawS2057ARecordsRow, standIns := [], harness := (true, "5bd225052ffb66b508a31b3812a7d3c43f4e1bcf628a4566b5a1b36ecc347312"), looks := false }, kinds := [], alts := [], laidByText := true, laidKinds := [.sentinel], laidTests := true, laidLooks := .later }
def LawS2057ARecordsCardSaid : Prop := Claim7.holds Ybad.pinned (.plain (OpenSpec.ofChange lawS2057ARecordsSpec)) lawS2057ARecordsCard

/-- THE TIED CARD OF 'flatten.LawS2057AAfterMany'. -/
def lawS2057AAfterManyCard : Claim7 := { stood := { row := lawS2057AAfterManyRow, standIns := [], harness := (true, "5bd225052ffb66b508a31b3812a7d3c43f4e1bcf628a4566b5a1b36ecc347312"), looks := false }, kinds := [], alts := [], laidByText := true, laidKinds := [.sentinel], laidTests := true, laidLooks := .later }
def LawS2057AAfterManyCardSaid : Prop := Claim7.holds Ybad.pinned (.plain (OpenSpec.ofChange lawS2057AAfterManySpec)) lawS2057AAfterManyCard
end Rows
end Go.Proofs.YbulkapoqDoor
