/-
  DERIVED. GIVEN WITH THE SEED: THE CARDS: each row of YbulkbuigFmtRows.lean that lists a variable, with what it lists TIED to the program's text (the seventh form; the later family's looks); each row that meets fmt, with fmt's text TOLD by the authors' own Lean function (tested against real Go, not proved from fmt's source: count such statements apart). THE CARD IS WHAT COUNTS. Prove the row's statement (the work); the ties are given (YbulkbuigFmtTie.lean); close each card by the builder's one call (the guide's Derived/Test/ToyasCard.lean, 'card_holds'). Laid BY PROGRAM, IN A SANDBOX (cutbox-door.mjs). By AI agents, Wed Nov 11 2026. No macro, syntax, notation, axiom, sorry.
-/
import Derived.Test.YbulkbuigFmtRows
import GoSem.ClaimSeven
namespace Go.Proofs.YbulkbuigFmt
namespace Rows

/-- THE TOLD AND TIED CARD OF 'httpapi.LawS3542AModel'. -/
def lawS3542AModelCard : Claim7 := { stood := { row := lawS3542AModelRow, standIns := [], harness := (true, "aebee4df3cf1ffe654b3606d774c03af38c4eee1bad49db36ef125442188448f"), looks := true }, told := true, laidByText := true, laidKinds := [.data, .data, .data, .called, .called], laidTests := true, laidLooks := .later, goes := false }
def LawS3542AModelToldSaid : Prop := Claim7.holds Ybaf.pinned (.plain (OpenSpec.ofChange lawS3542AModelSpec)) lawS3542AModelCard
/-- ITS FALSE NEIGHBOUR. Refute it at one input. -/
def LawS3542AModelToldWrongFalsely : Prop := Claim7.holds Ybaf.pinned (.plain (OpenSpec.ofChange lawS3542AModelWrong)) lawS3542AModelCard

/-- THE TOLD AND TIED CARD OF 'httpapi.LawS3542ARoundTrip'. -/
def lawS3542ARoundTripCard : Claim7 := { stood := { row := lawS3542ARoundTripRow, standIns := [], harness := (true, "aebee4df3cf1ffe654b3606d774c03af38c4eee1bad49db36ef125442188448f"), looks := true }, told := true, laidByText := true, laidKinds := [.data, .data, .data, .called, .called], laidTests := true, laidLooks := .later, goes := false }
def LawS3542ARoundTripToldSaid : Prop := Claim7.holds Ybaf.pinned (.plain (OpenSpec.ofChange lawS3542ARoundTripSpec)) lawS3542ARoundTripCard
/-- ITS FALSE NEIGHBOUR. Refute it at one input. -/
def LawS3542ARoundTripToldWrongFalsely : Prop := Claim7.holds Ybaf.pinned (.plain (OpenSpec.ofChange lawS3542ARoundTripWrong)) lawS3542ARoundTripCard

/-- THE TOLD CARD OF 'engine.LawS3542BRefuses'. -/
def lawS3542BRefusesCard : Claim7 := { stood := { row := lawS3542BRefusesRow, standIns := [], harness := (true, "aebee4df3cf1ffe654b3606d774c03af38c4eee1bad49db36ef125442188448f"), looks := true }, told := true, goes := false }
def LawS3542BRefusesToldSaid : Prop := Claim7.holds Ybaf.pinned (.plain (OpenSpec.ofChange lawS3542BRefusesSpec)) lawS3542BRefusesCard
/-- ITS FALSE NEIGHBOUR. Refute it at one input. -/
def LawS3542BRefusesToldWrongFalsely : Prop := Claim7.holds Ybaf.pinned (.plain (OpenSpec.ofChange lawS3542BRefusesWrong)) lawS3542BRefusesCard
end Rows
end Go.Proofs.YbulkbuigFmt
