/-
  DERIVED. GIVEN WITH THE SEED: THE CARDS: each row of YbulkbdfmFmtRows.lean that lists a variable, with what it lists TIED to the program's text (the seventh form; the later family's looks); each row that meets fmt, with fmt's text TOLD by the authors' own Lean function (tested against real Go, not proved from fmt's source: count such statements apart). THE CARD IS WHAT COUNTS. Prove the row's statement (the work); the ties are given (YbulkbdfmFmtTie.lean); close each card by the builder's one call (the guide's Derived/Test/ToyasCard.lean, 'card_holds'). Laid BY PROGRAM, IN A SANDBOX (cutbox-door.mjs). By AI agents, Wed Nov 11 2026. No macro, syntax, notation, axiom, sorry.
-/
import Derived.Test.YbulkbdfmFmtRows
import GoSem.ClaimSeven
namespace Go.Proofs.YbulkbdfmFmt
namespace Rows

/-- THE TOLD CARD OF 'vpn.LawS2716AExact'. -/
def lawS2716AExactCard : Claim7 := { stood := { row := lawS2716AExactRow, standIns := [], harness := (true, "aa62b520fa3c57829916c4498f29f9be3667f2442af054c9ddc10690a5963465"), looks := false }, told := true, goes := false }
def LawS2716AExactToldSaid : Prop := Claim7.holds Ybaf.pinned (.plain (OpenSpec.ofChange lawS2716AExactSpec)) lawS2716AExactCard
/-- ITS FALSE NEIGHBOUR. Refute it at one input. -/
def LawS2716AExactToldWrongFalsely : Prop := Claim7.holds Ybaf.pinned (.plain (OpenSpec.ofChange lawS2716AExactWrong)) lawS2716AExactCard

/-- THE TOLD CARD OF 'vpn.LawS2716ATrailing'. -/
def lawS2716ATrailingCard : Claim7 := { stood := { row := lawS2716ATrailingRow, standIns := [], harness := (true, "aa62b520fa3c57829916c4498f29f9be3667f2442af054c9ddc10690a5963465"), looks := false }, told := true, goes := false }
def LawS2716ATrailingToldSaid : Prop := Claim7.holds Ybaf.pinned (.plain (OpenSpec.ofChange lawS2716ATrailingSpec)) lawS2716ATrailingCard
/-- ITS FALSE NEIGHBOUR. Refute it at one input. -/
def LawS2716ATrailingToldWrongFalsely : Prop := Claim7.holds Ybaf.pinned (.plain (OpenSpec.ofChange lawS2716ATrailingWrong)) lawS2716ATrailingCard

/-- THE TOLD CARD OF 'mtp3.LawS2716CWire'. -/
def lawS2716CWireCard : Claim7 := { stood := { row := lawS2716CWireRow, standIns := [], harness := (true, "aa62b520fa3c57829916c4498f29f9be3667f2442af054c9ddc10690a5963465"), looks := false }, told := true, goes := false }
def LawS2716CWireToldSaid : Prop := Claim7.holds Ybaf.pinned (.plain (OpenSpec.ofChange lawS2716CWireSpec)) lawS2716CWireCard
/-- ITS FALSE NEIGHBOUR. Refute it at one input. -/
def LawS2716CWireToldWrongFalsely : Prop := Claim7.holds Ybaf.pinned (.plain (OpenSpec.ofChange lawS2716CWireWrong)) lawS2716CWireCard

/-- THE TOLD CARD OF 'mtp3.LawS2716CRoundTrip'. -/
def lawS2716CRoundTripCard : Claim7 := { stood := { row := lawS2716CRoundTripRow, standIns := [], harness := (true, "aa62b520fa3c57829916c4498f29f9be3667f2442af054c9ddc10690a5963465"), looks := false }, told := true, goes := false }
def LawS2716CRoundTripToldSaid : Prop := Claim7.holds Ybaf.pinned (.plain (OpenSpec.ofChange lawS2716CRoundTripSpec)) lawS2716CRoundTripCard
/-- ITS FALSE NEIGHBOUR. Refute it at one input. -/
def LawS2716CRoundTripToldWrongFalsely : Prop := Claim7.holds Ybaf.pinned (.plain (OpenSpec.ofChange lawS2716CRoundTripWrong)) lawS2716CRoundTripCard
end Rows
end Go.Proofs.YbulkbdfmFmt
