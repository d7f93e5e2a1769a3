/-
  DERIVED. GIVEN WITH THE SEED: THE CARDS: each row of YbulkafmyFmtRows.lean that lists a variable, with what it lists TIED to the program's text (the seventh form; the later family's looks); each row that meets fmt, with fmt's text TOLD by the authors' own Lean function (tested against real Go, not proved from fmt's source: count such statements apart). THE CARD IS WHAT COUNTS. Prove the row's statement (the work); the ties are given (YbulkafmyFmtTie.lean); close each card by the builder's one call (the guide's Derived/Test/ToyasCard.lean, 'card_holds'). Laid BY PROGRAM, IN A SANDBOX (cutbox-door.mjs). By AI agents, Wed Nov 11 2026. No macro, syntax, notation, axiom, sorry.
-/
import Derived.Test.YbulkafmyFmtRows
import GoSem.ClaimSeven
namespace Go.Proofs.YbulkafmyFmt
namespace Rows

/-- THE TOLD AND TIED CARD OF 'capfile.LawS1571CHeaderBytes'. -/
def lawS1571CHeaderBytesCard : Claim7 := { stood := { row := lawS1571CHeaderBytesRow, standIns := [], harness := (true, "dcccc43369656acdfb050f598ef4c9620b7c33f08348a35e7b3e4257e9121955"), looks := true }, told := true, laidByText := true, laidKinds := [.sentinel], laidTests := true, laidLooks := .later, goes := false }
def LawS1571CHeaderBytesToldSaid : Prop := Claim7.holds Ybaf.pinned (.plain (OpenSpec.ofChange lawS1571CHeaderBytesSpec)) lawS1571CHeaderBytesCard
/-- ITS FALSE NEIGHBOUR. Refute it at one input. -/
def LawS1571CHeaderBytesToldWrongFalsely : Prop := Claim7.holds Ybaf.pinned (.plain (OpenSpec.ofChange lawS1571CHeaderBytesWrong)) lawS1571CHeaderBytesCard

/-- THE TOLD AND TIED CARD OF 'capfile.LawS1571CNoOrder'. -/
def lawS1571CNoOrderCard : Claim7 := { stood := { row := lawS1571CNoOrderRow, standIns := [], harness := (true, "dcccc43369656acdfb050f598ef4c9620b7c33f08348a35e7b3e4257e9121955"), looks := true }, told := true, laidByText := true, laidKinds := [.sentinel], laidTests := true, laidLooks := .later, goes := false }
def LawS1571CNoOrderToldSaid : Prop := Claim7.holds Ybaf.pinned (.plain (OpenSpec.ofChange lawS1571CNoOrderSpec)) lawS1571CNoOrderCard
/-- ITS FALSE NEIGHBOUR. Refute it at one input. -/
def LawS1571CNoOrderToldWrongFalsely : Prop := Claim7.holds Ybaf.pinned (.plain (OpenSpec.ofChange lawS1571CNoOrderWrong)) lawS1571CNoOrderCard
end Rows
end Go.Proofs.YbulkafmyFmt
