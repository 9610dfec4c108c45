/-
  DERIVED. GIVEN WITH THE SEED: THE CARDS: each row of YbulkbuheDoorRows.lean that lists a variable, with what it lists TIED to the program's text (the seventh form; the later family's looks); each row that meets fmt, with fmt's text TOLD by the authors' own Lean function (tested against real Go, not proved from fmt's source: count such statements apart). THE CARD IS WHAT COUNTS. Prove the row's statement (the work); the ties are given (YbulkbuheDoorTie.lean); close each card by the builder's one call (the guide's Derived/Test/ToyasCard.lean, 'card_holds'). Laid BY PROGRAM, IN A SANDBOX (cutbox-door.mjs). By AI agents, Wed Nov 11 2026. No macro, syntax, notation, axiom, sorry.
-/
import Derived.Test.YbulkbuheDoorRows
import GoSem.ClaimSeven
namespace Go.Proofs.YbulkbuheDoor
namespace Rows

/-- THE TIED CARD OF 'sched.LawS3540AExact'. -/
def lawS3540AExactCard : Claim7 := { stood := { row := lawS3540AExactRow, standIns := [], harness := (true, "e49608f66f9d23c91cdd8edeae4866367e4cded8371f1f7f8b26c2ff909202ba"), looks := false }, kinds := [], alts := [], laidByText := true, laidKinds := [.data], laidTests := true, laidLooks := .later }
def LawS3540AExactCardSaid : Prop := Claim7.holds Ybad.pinned (.plain (OpenSpec.ofChange lawS3540AExactSpec)) lawS3540AExactCard

/-- THE TIED CARD OF 'sched.LawS3540ALift'. -/
def lawS3540ALiftCard : Claim7 := { stood := { row := lawS3540ALiftRow, standIns := [], harness := (true, "e49608f66f9d23c91cdd8edeae4866367e4cded8371f1f7f8b26c2ff909202ba"), looks := false }, kinds := [], alts := [], laidByText := true, laidKinds := [.data], laidTests := true, laidLooks := .later }
def LawS3540ALiftCardSaid : Prop := Claim7.holds Ybad.pinned (.plain (OpenSpec.ofChange lawS3540ALiftSpec)) lawS3540ALiftCard
end Rows
end Go.Proofs.YbulkbuheDoor
