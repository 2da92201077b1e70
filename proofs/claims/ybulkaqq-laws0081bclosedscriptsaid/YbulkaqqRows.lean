/-
  No cell of these rows narrows 'for every input' (looked for: loops, veiled, ifaces, maps, wideKeys, modest, calm, conditions, laid).
  DERIVED. THE GIVEN ROWS OF THIS SEAT. 2 by the template 'for every input the law returns true; each argument reads behind the call as it read before'; 0 by the template 'total and deterministic' (their statements: YbulkaqqTotals.lean).
  GIVEN WITH THE SEED: the statements are not yours to turn. If you find one false, say at which input.
  Laid BY PROGRAM, IN A SANDBOX (cutbox-rows.mjs): the forced cells as the released guide's own fill.sh prints them over the translation a5f629e2fa5bea9d… (all of the seat's roots in one cut). By AI agents, Wed Nov 11 2026. No macro, syntax, notation, axiom, sorry.
-/
import Derived.Test.YbulkaqqChecked
import GoSem.Claim
import GoSem.ClaimJoined
import GoSem.ClaimMapViews
import Derived.JoinedTies
import Derived.KernelRfl
namespace Go.Proofs.Ybulkaqq
/- THE CELL 'sum', in the pinned program and in every row, IS THE sha256 OF THE DUMP (.gsa) THAT YbulkaqqProg.lean LOADS. Nothing in Lean hashes anything: it is a label: what it is worth is what the hold of that sum in a sandbox is worth. -/
noncomputable def Yba.pinned : Pinned := { name := "ybulkaqq", sum := "a5f629e2fa5bea9d60f7b0c4527dbfb19b35a217182a4b79ed8d44ec0098194b", checked := Yba.checked }
namespace Rows
def none {H : Type} : Left H := { results := [], args := [] }

/-- 'vm.LawS0081BClosedScript': WHATEVER THE INPUT: true; the input reads as it did. -/
def lawS0081BClosedScriptSpec : ChangeSpec := { name := "lawS0081BClosedScript", fn := fun _ => fun
  | [d1, d2, d3] => { results := [.lit (.bool true)], args := [d1, d2, d3] }
  | _ => none }
def lawS0081BClosedScriptRow : OpenClaim := { program := "ybulkaqq", sum := "a5f629e2fa5bea9d60f7b0c4527dbfb19b35a217182a4b79ed8d44ec0098194b", func := "example.com/siskin/siskin/vm.LawS0081BClosedScript", spec := "lawS0081BClosedScript", inPlace := ["math.Float64bits"], apart := false }
def LawS0081BClosedScriptSaid : Prop := lawS0081BClosedScriptRow.holds Yba.pinned (OpenSpec.ofChange lawS0081BClosedScriptSpec)

/-- ITS FALSE NEIGHBOUR: 'it returns false'. Refute it at one input. -/
def lawS0081BClosedScriptWrong : ChangeSpec := { name := "lawS0081BClosedScript", fn := fun _ => fun
  | [d1, d2, d3] => { results := [.lit (.bool false)], args := [d1, d2, d3] }
  | _ => none }
def LawS0081BClosedScriptWrongFalsely : Prop := lawS0081BClosedScriptRow.holds Yba.pinned (OpenSpec.ofChange lawS0081BClosedScriptWrong)

/-- 'vm.LawS0081BOpenSlot': WHATEVER THE INPUT: true; the input reads as it did. -/
def lawS0081BOpenSlotSpec : ChangeSpec := { name := "lawS0081BOpenSlot", fn := fun _ => fun
  | [d1, d2, d3, d4, d5] => { results := [.lit (.bool true)], args := [d1, d2, d3, d4, d5] }
  | _ => none }
def lawS0081BOpenSlotRow : OpenClaim := { program := "ybulkaqq", sum := "a5f629e2fa5bea9d60f7b0c4527dbfb19b35a217182a4b79ed8d44ec0098194b", func := "example.com/siskin/siskin/vm.LawS0081BOpenSlot", spec := "lawS0081BOpenSlot", inPlace := ["math.Float64bits"], apart := false }
def LawS0081BOpenSlotSaid : Prop := lawS0081BOpenSlotRow.holds Yba.pinned (OpenSpec.ofChange lawS0081BOpenSlotSpec)

/-- ITS FALSE NEIGHBOUR: 'it returns false'. Refute it at one input. -/
def lawS0081BOpenSlotWrong : ChangeSpec := { name := "lawS0081BOpenSlot", fn := fun _ => fun
  | [d1, d2, d3, d4, d5] => { results := [.lit (.bool false)], args := [d1, d2, d3, d4, d5] }
  | _ => none }
def LawS0081BOpenSlotWrongFalsely : Prop := lawS0081BOpenSlotRow.holds Yba.pinned (OpenSpec.ofChange lawS0081BOpenSlotWrong)

end Rows
end Go.Proofs.Ybulkaqq
