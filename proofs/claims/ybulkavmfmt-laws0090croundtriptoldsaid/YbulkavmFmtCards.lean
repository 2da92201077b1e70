/-
  DERIVED. GIVEN WITH THE SEED: THE CARDS: each row of YbulkavmFmtRows.lean that lists a variable, with what it lists TIED to the program's text (the seventh form; the later family's looks); each row that meets fmt, with fmt's text TOLD by the authors' own Lean function (tested against real Go, not proved from fmt's source: count such statements apart). THE CARD IS WHAT COUNTS. Prove the row's statement (the work); the ties are given (YbulkavmFmtTie.lean); close each card by the builder's one call (the guide's Derived/Test/ToyasCard.lean, 'card_holds'). Laid BY PROGRAM, IN A SANDBOX (cutbox-door.mjs). By AI agents, Wed Nov 11 2026. No macro, syntax, notation, axiom, sorry.
-/
import Derived.Test.YbulkavmFmtRows
import GoSem.ClaimSeven
namespace Go.Proofs.YbulkavmFmt
namespace Rows

/-- THE TOLD CARD OF 'veracast.LawS0090CRead'. -/
def lawS0090CReadCard : Claim7 := { stood := { row := lawS0090CReadRow, standIns := [], harness := (true, "91beb2ac1b94c700a8bd37ec368f55737b559327ca9240b279c0134b680c99af"), looks := false }, told := true, goes := false }
def LawS0090CReadToldSaid : Prop := Claim7.holds Ybaf.pinned (.plain (OpenSpec.ofChange lawS0090CReadSpec)) lawS0090CReadCard
/-- ITS FALSE NEIGHBOUR. Refute it at one input. -/
def LawS0090CReadToldWrongFalsely : Prop := Claim7.holds Ybaf.pinned (.plain (OpenSpec.ofChange lawS0090CReadWrong)) lawS0090CReadCard

/-- THE TOLD CARD OF 'veracast.LawS0090CRoundTrip'. -/
def lawS0090CRoundTripCard : Claim7 := { stood := { row := lawS0090CRoundTripRow, standIns := [], harness := (true, "91beb2ac1b94c700a8bd37ec368f55737b559327ca9240b279c0134b680c99af"), looks := false }, told := true, goes := false }
def LawS0090CRoundTripToldSaid : Prop := Claim7.holds Ybaf.pinned (.plain (OpenSpec.ofChange lawS0090CRoundTripSpec)) lawS0090CRoundTripCard
/-- ITS FALSE NEIGHBOUR. Refute it at one input. -/
def LawS0090CRoundTripToldWrongFalsely : Prop := Claim7.holds Ybaf.pinned (.plain (OpenSpec.ofChange lawS0090CRoundTripWrong)) lawS0090CRoundTripCard
end Rows
end Go.Proofs.YbulkavmFmt
