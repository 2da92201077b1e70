/-
  DERIVED. GIVEN WITH THE SEED: THE CARDS: each row of YbulkaqqFmtRows.lean that lists a variable, with what it lists TIED to the program's text (the seventh form; the later family's looks); each row that meets fmt, with fmt's text TOLD by the authors' own Lean function (tested against real Go, not proved from fmt's source: count such statements apart). THE CARD IS WHAT COUNTS. Prove the row's statement (the work); the ties are given (YbulkaqqFmtTie.lean); close each card by the builder's one call (the guide's Derived/Test/ToyasCard.lean, 'card_holds'). Laid BY PROGRAM, IN A SANDBOX (cutbox-door.mjs). By AI agents, Wed Nov 11 2026. No macro, syntax, notation, axiom, sorry.
-/
import Derived.Test.YbulkaqqFmtRows
import GoSem.ClaimSeven
namespace Go.Proofs.YbulkaqqFmt
namespace Rows

/-- THE TOLD CARD OF 'compiler.LawS0081AChain'. -/
def lawS0081AChainCard : Claim7 := { stood := { row := lawS0081AChainRow, standIns := [], harness := (true, "30694c57143f5140f9d1def38977d030ab80cb50d65d491474946a12fb529e7a"), looks := false }, told := true, goes := false }
def LawS0081AChainToldSaid : Prop := Claim7.holds Ybaf.pinned (.plain (OpenSpec.ofChange lawS0081AChainSpec)) lawS0081AChainCard
/-- ITS FALSE NEIGHBOUR. Refute it at one input. -/
def LawS0081AChainToldWrongFalsely : Prop := Claim7.holds Ybaf.pinned (.plain (OpenSpec.ofChange lawS0081AChainWrong)) lawS0081AChainCard

/-- THE TOLD CARD OF 'compiler.LawS0081ARepeat'. -/
def lawS0081ARepeatCard : Claim7 := { stood := { row := lawS0081ARepeatRow, standIns := [], harness := (true, "30694c57143f5140f9d1def38977d030ab80cb50d65d491474946a12fb529e7a"), looks := false }, told := true, goes := false }
def LawS0081ARepeatToldSaid : Prop := Claim7.holds Ybaf.pinned (.plain (OpenSpec.ofChange lawS0081ARepeatSpec)) lawS0081ARepeatCard
/-- ITS FALSE NEIGHBOUR. Refute it at one input. -/
def LawS0081ARepeatToldWrongFalsely : Prop := Claim7.holds Ybaf.pinned (.plain (OpenSpec.ofChange lawS0081ARepeatWrong)) lawS0081ARepeatCard
end Rows
end Go.Proofs.YbulkaqqFmt
