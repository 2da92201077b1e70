/-
  No cell of these rows narrows 'for every input' (looked for: loops, veiled, ifaces, maps, wideKeys, modest, calm, conditions, laid).
  DERIVED. THE GIVEN ROWS OF THIS SEAT. 2 by the template 'for every input the law returns true; each argument reads behind the call as it read before'; 0 by the template 'total and deterministic' (their statements: YbulkavmFmtTotals.lean).
  GIVEN WITH THE SEED: the statements are not yours to turn. If you find one false, say at which input.
  Laid BY PROGRAM, IN A SANDBOX (cutbox-rows.mjs): the forced cells as the released guide's own fill.sh prints them over the translation 5911a33757352c8c… (all of the seat's roots in one cut). By AI agents, Wed Nov 11 2026. No macro, syntax, notation, axiom, sorry.
-/
import Derived.Test.YbulkavmFmtChecked
import GoSem.Claim
import GoSem.ClaimJoined
import GoSem.ClaimMapViews
import Derived.JoinedTies
import Derived.KernelRfl
namespace Go.Proofs.YbulkavmFmt
/- THE CELL 'sum', in the pinned program and in every row, IS THE sha256 OF THE DUMP (.gsa) THAT YbulkavmFmtProg.lean LOADS. Nothing in Lean hashes anything: it is a label: what it is worth is what the hold of that sum in a sandbox is worth. -/
noncomputable def Ybaf.pinned : Pinned := { name := "ybulkavmfmt", sum := "5911a33757352c8c573e233fda368f851dc18f164d88e98d9546e410c34f680e", checked := Ybaf.checked }
namespace Rows
def none {H : Type} : Left H := { results := [], args := [] }

/-- 'veracast.LawS0090CRead': WHATEVER THE INPUT: true; the input reads as it did. -/
def lawS0090CReadSpec : ChangeSpec := { name := "lawS0090CRead", fn := fun _ => fun
  | [d1, d2] => { results := [.lit (.bool true)], args := [d1, d2] }
  | _ => none }
def lawS0090CReadRow : OpenClaim := { program := "ybulkavmfmt", sum := "5911a33757352c8c573e233fda368f851dc18f164d88e98d9546e410c34f680e", func := "example.com/veracast/veracast.LawS0090CRead", spec := "lawS0090CRead", stops := ["fmt.errorf"], inPlace := ["fmt.errorf"], apart := false }
/-- NO THEOREM (fmt's text is open here; it may be false): for the released tool's asking of the row's closed facts alone. THE STATEMENT IS 'LawS0090CReadToldSaid' (YbulkavmFmtCards.lean). -/
def LawS0090CReadFormAsk : Prop := lawS0090CReadRow.holds Ybaf.pinned (OpenSpec.ofChange lawS0090CReadSpec)

/-- ITS FALSE NEIGHBOUR: 'it returns false'. Refute it at one input. -/
def lawS0090CReadWrong : ChangeSpec := { name := "lawS0090CRead", fn := fun _ => fun
  | [d1, d2] => { results := [.lit (.bool false)], args := [d1, d2] }
  | _ => none }
def LawS0090CReadWrongFormAsk : Prop := lawS0090CReadRow.holds Ybaf.pinned (OpenSpec.ofChange lawS0090CReadWrong)

/-- 'veracast.LawS0090CRoundTrip': WHATEVER THE INPUT: true; the input reads as it did. -/
def lawS0090CRoundTripSpec : ChangeSpec := { name := "lawS0090CRoundTrip", fn := fun _ => fun
  | [d] => { results := [.lit (.bool true)], args := [d] }
  | _ => none }
def lawS0090CRoundTripRow : OpenClaim := { program := "ybulkavmfmt", sum := "5911a33757352c8c573e233fda368f851dc18f164d88e98d9546e410c34f680e", func := "example.com/veracast/veracast.LawS0090CRoundTrip", spec := "lawS0090CRoundTrip", stops := ["fmt.errorf"], inPlace := ["fmt.errorf"], apart := false }
/-- NO THEOREM (fmt's text is open here; it may be false): for the released tool's asking of the row's closed facts alone. THE STATEMENT IS 'LawS0090CRoundTripToldSaid' (YbulkavmFmtCards.lean). -/
def LawS0090CRoundTripFormAsk : Prop := lawS0090CRoundTripRow.holds Ybaf.pinned (OpenSpec.ofChange lawS0090CRoundTripSpec)

/-- ITS FALSE NEIGHBOUR: 'it returns false'. Refute it at one input. -/
def lawS0090CRoundTripWrong : ChangeSpec := { name := "lawS0090CRoundTrip", fn := fun _ => fun
  | [d] => { results := [.lit (.bool false)], args := [d] }
  | _ => none }
def LawS0090CRoundTripWrongFormAsk : Prop := lawS0090CRoundTripRow.holds Ybaf.pinned (OpenSpec.ofChange lawS0090CRoundTripWrong)

end Rows
end Go.Proofs.YbulkavmFmt
