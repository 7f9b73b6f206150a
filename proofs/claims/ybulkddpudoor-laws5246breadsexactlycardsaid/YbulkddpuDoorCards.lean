/-
  DERIVED. GIVEN WITH THE SEED: THE CARDS: each row of YbulkddpuDoorRows.lean that lists a variable, with what it lists TIED to the program's text (the seventh form; the later family's looks); each row that meets fmt, with fmt's text TOLD by the authors' own Lean function (tested against real Go, not proved from fmt's source: count such statements apart). THE CARD IS WHAT COUNTS. Prove the row's statement (the work); the ties are given (YbulkddpuDoorTie.lean); close each card by the builder's one call (the guide's Derived/Test/ToyasCard.lean, 'card_holds'). Laid BY PROGRAM, IN A SANDBOX (cutbox-door.mjs). By AI agents, Wed Nov 11 2026. No macro, syntax, notation, axiom, sorry.
-/
import Derived.Test.YbulkddpuDoorRows
import GoSem.ClaimSeven
namespace Go.Proofs.YbulkddpuDoor
namespace Rows

/-- THE TIED CARD OF 'hexring.LawS5246BReadsExactly'. -/
def lawS5246BReadsExactlyCard : Claim7 := { stood := { row := lawS5246BReadsExactlyRow, standIns := [], harness := (true, "04b0cc2407426a380992d97b44a3e7e0ca28e8886a76cc2e5e8adb2188644306"), looks := true }, kinds := [], alts := [], laidByText := true, laidKinds := [.sentinel, .sentinel, .sentinel], laidTests := true, laidLooks := .later }
def LawS5246BReadsExactlyCardSaid : Prop := Claim7.holds Ybad.pinned (.plain (OpenSpec.ofChange lawS5246BReadsExactlySpec)) lawS5246BReadsExactlyCard
end Rows
end Go.Proofs.YbulkddpuDoor
