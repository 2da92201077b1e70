/-
  No cell of these rows narrows 'for every input' (looked for: loops, veiled, ifaces, maps, wideKeys, modest, calm, conditions, laid).
  DERIVED. THE GIVEN ROWS OF THIS SEAT. 2 by the template 'for every input the law returns true; each argument reads behind the call as it read before'; 0 by the template 'total and deterministic' (their statements: YbulkaqqFmtTotals.lean).
  GIVEN WITH THE SEED: the statements are not yours to turn. If you find one false, say at which input.
  Laid BY PROGRAM, IN A SANDBOX (cutbox-rows.mjs): the forced cells as the released guide's own fill.sh prints them over the translation c3feaf7210999e59… (all of the seat's roots in one cut). By AI agents, Wed Nov 11 2026. No macro, syntax, notation, axiom, sorry.
-/
import Derived.Test.YbulkaqqFmtChecked
import GoSem.Claim
import GoSem.ClaimJoined
import GoSem.ClaimMapViews
import Derived.JoinedTies
import Derived.KernelRfl
namespace Go.Proofs.YbulkaqqFmt
/- THE CELL 'sum', in the pinned program and in every row, IS THE sha256 OF THE DUMP (.gsa) THAT YbulkaqqFmtProg.lean LOADS. Nothing in Lean hashes anything: it is a label: what it is worth is what the hold of that sum in a sandbox is worth. -/
noncomputable def Ybaf.pinned : Pinned := { name := "ybulkaqqfmt", sum := "c3feaf7210999e59e7bdcafa4806c79d68612e696e64c22b61710f534cb35697", checked := Ybaf.checked }
namespace Rows
def none {H : Type} : Left H := { results := [], args := [] }

/-- 'compiler.LawS0081AChain': WHATEVER THE INPUT: true; the input reads as it did. -/
def lawS0081AChainSpec : ChangeSpec := { name := "lawS0081AChain", fn := fun _ => fun
  | [d1, d2] => { results := [.lit (.bool true)], args := [d1, d2] }
  | _ => none }
def lawS0081AChainRow : OpenClaim := { program := "ybulkaqqfmt", sum := "c3feaf7210999e59e7bdcafa4806c79d68612e696e64c22b61710f534cb35697", func := "example.com/siskin/siskin/compiler.LawS0081AChain", spec := "lawS0081AChain", stops := ["fmt.Sprintf, its operands' methods called"], inPlace := ["fmt.Sprintf"], unfollowed := true, recurses := true, plainKeys := false, apart := false }
/-- NO THEOREM (fmt's text is open here; it may be false): for the released tool's asking of the row's closed facts alone. THE STATEMENT IS 'LawS0081AChainToldSaid' (YbulkaqqFmtCards.lean). -/
def LawS0081AChainFormAsk : Prop := lawS0081AChainRow.holds Ybaf.pinned (OpenSpec.ofChange lawS0081AChainSpec)

/-- ITS FALSE NEIGHBOUR: 'it returns false'. Refute it at one input. -/
def lawS0081AChainWrong : ChangeSpec := { name := "lawS0081AChain", fn := fun _ => fun
  | [d1, d2] => { results := [.lit (.bool false)], args := [d1, d2] }
  | _ => none }
def LawS0081AChainWrongFormAsk : Prop := lawS0081AChainRow.holds Ybaf.pinned (OpenSpec.ofChange lawS0081AChainWrong)

/-- 'compiler.LawS0081ARepeat': WHATEVER THE INPUT: true; the input reads as it did. -/
def lawS0081ARepeatSpec : ChangeSpec := { name := "lawS0081ARepeat", fn := fun _ => fun
  | [d1, d2] => { results := [.lit (.bool true)], args := [d1, d2] }
  | _ => none }
def lawS0081ARepeatRow : OpenClaim := { program := "ybulkaqqfmt", sum := "c3feaf7210999e59e7bdcafa4806c79d68612e696e64c22b61710f534cb35697", func := "example.com/siskin/siskin/compiler.LawS0081ARepeat", spec := "lawS0081ARepeat", stops := ["fmt.Sprintf, its operands' methods called"], inPlace := ["fmt.Sprintf"], unfollowed := true, recurses := true, plainKeys := false, apart := false }
/-- NO THEOREM (fmt's text is open here; it may be false): for the released tool's asking of the row's closed facts alone. THE STATEMENT IS 'LawS0081ARepeatToldSaid' (YbulkaqqFmtCards.lean). -/
def LawS0081ARepeatFormAsk : Prop := lawS0081ARepeatRow.holds Ybaf.pinned (OpenSpec.ofChange lawS0081ARepeatSpec)

/-- ITS FALSE NEIGHBOUR: 'it returns false'. Refute it at one input. -/
def lawS0081ARepeatWrong : ChangeSpec := { name := "lawS0081ARepeat", fn := fun _ => fun
  | [d1, d2] => { results := [.lit (.bool false)], args := [d1, d2] }
  | _ => none }
def LawS0081ARepeatWrongFormAsk : Prop := lawS0081ARepeatRow.holds Ybaf.pinned (OpenSpec.ofChange lawS0081ARepeatWrong)

end Rows
end Go.Proofs.YbulkaqqFmt
