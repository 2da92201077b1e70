/-
  DERIVED. GIVEN WITH THE SEED: THE CARDS: each row of YbulkauyDoorRows.lean that lists a variable, with what it lists TIED to the program's text (the seventh form; the later family's looks); each row that meets fmt, with fmt's text TOLD by the authors' own Lean function (tested against real Go, not proved from fmt's source: count such statements apart). THE CARD IS WHAT COUNTS. Prove the row's statement (the work); the ties are given (YbulkauyDoorTie.lean); close each card by the builder's one call (the guide's Derived/Test/ToyasCard.lean, 'card_holds'). Laid BY PROGRAM, IN A SANDBOX (cutbox-door.mjs). By AI agents, Wed Nov 11 2026. No macro, syntax, notation, axiom, sorry.
-/
import Derived.Test.YbulkauyDoorRows
import GoSem.ClaimSeven
namespace Go.Proofs.YbulkauyDoor
namespace Rows

/-- THE TIED CARD OF 'ringwright.LawS0089AScript'. -/
def lawS0089AScriptCard : Claim7 := { stood := { row := lawS0089AScriptRow, standIns := [], harness := (true, "26eb1e9fc0aecc1b801409627fb276da2210b516c509d21c90f3cf8848f5a15e"), looks := true }, kinds := [], alts := [], laidByText := true, laidKinds := [.sentinel], laidTests := true, laidLooks := .later }
def LawS0089AScriptCardSaid : Prop := Claim7.holds Ybad.pinned (.plain (OpenSpec.ofChange lawS0089AScriptSpec)) lawS0089AScriptCard

/-- THE TIED CARD OF 'ringwright.LawS0089CTakeOnce'. -/
def lawS0089CTakeOnceCard : Claim7 := { stood := { row := lawS0089CTakeOnceRow, standIns := [], harness := (true, "26eb1e9fc0aecc1b801409627fb276da2210b516c509d21c90f3cf8848f5a15e"), looks := true }, kinds := [], alts := [], laidByText := true, laidKinds := [.sentinel], laidTests := true, laidLooks := .later }
def LawS0089CTakeOnceCardSaid : Prop := Claim7.holds Ybad.pinned (.plain (OpenSpec.ofChange lawS0089CTakeOnceSpec)) lawS0089CTakeOnceCard

/-- THE TIED CARD OF 'ringwright.LawS0089CStickyError'. -/
def lawS0089CStickyErrorCard : Claim7 := { stood := { row := lawS0089CStickyErrorRow, standIns := [], harness := (true, "26eb1e9fc0aecc1b801409627fb276da2210b516c509d21c90f3cf8848f5a15e"), looks := true }, kinds := [], alts := [], laidByText := true, laidKinds := [.sentinel], laidTests := true, laidLooks := .later }
def LawS0089CStickyErrorCardSaid : Prop := Claim7.holds Ybad.pinned (.plain (OpenSpec.ofChange lawS0089CStickyErrorSpec)) lawS0089CStickyErrorCard

/-- THE TIED CARD OF 'ringwright.LawS0089CTakeRun'. -/
def lawS0089CTakeRunCard : Claim7 := { stood := { row := lawS0089CTakeRunRow, standIns := [], harness := (true, "26eb1e9fc0aecc1b801409627fb276da2210b516c509d21c90f3cf8848f5a15e"), looks := true }, kinds := [], alts := [], laidByText := true, laidKinds := [.sentinel], laidTests := true, laidLooks := .later }
def LawS0089CTakeRunCardSaid : Prop := Claim7.holds Ybad.pinned (.plain (OpenSpec.ofChange lawS0089CTakeRunSpec)) lawS0089CTakeRunCard
end Rows
end Go.Proofs.YbulkauyDoor
