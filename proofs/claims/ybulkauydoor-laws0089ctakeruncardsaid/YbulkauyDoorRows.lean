/-
  NARROWER THAN 'FOR EVERY INPUT', by the rows' own cells (each row's printed sentence says how): LawS0089AScript: ifaces, laid · LawS0089CTakeOnce: ifaces, laid · LawS0089CStickyError: ifaces, laid · LawS0089CTakeRun: ifaces, laid.
  DERIVED. THE GIVEN ROWS OF THIS SEAT. 4 by the template 'for every input the law returns true; each argument reads behind the call as it read before'; 0 by the template 'total and deterministic' (their statements: YbulkauyDoorTotals.lean).
  GIVEN WITH THE SEED: the statements are not yours to turn. If you find one false, say at which input.
  Laid BY PROGRAM, IN A SANDBOX (cutbox-rows.mjs): the forced cells as the released guide's own fill.sh prints them over the translation f680a9e72c7f9e41… (all of the seat's roots in one cut). By AI agents, Wed Nov 11 2026. No macro, syntax, notation, axiom, sorry.
-/
import Derived.Test.YbulkauyDoorChecked
import GoSem.Claim
import GoSem.ClaimJoined
import GoSem.ClaimMapViews
import Derived.JoinedTies
import Derived.KernelRfl
namespace Go.Proofs.YbulkauyDoor
/- THE CELL 'sum', in the pinned program and in every row, IS THE sha256 OF THE DUMP (.gsa) THAT YbulkauyDoorProg.lean LOADS. Nothing in Lean hashes anything: it is a label: what it is worth is what the hold of that sum in a sandbox is worth. -/
noncomputable def Ybad.pinned : Pinned := { name := "ybulkauydoor", sum := "f680a9e72c7f9e41674d38efc597f103699bbe79ea8aab6b56c811be656f5819", checked := Ybad.checked }
namespace Rows
def none {H : Type} : Left H := { results := [], args := [] }

/- WHAT THE LISTED PACKAGE-LEVEL VARIABLES READ AS WHEN THE CALL BEGINS. Each datum BY PROGRAM (the guide's laid-datum.mjs) off the statement by which the dump's own 'gosem.cut.vars' lays the variable. In a bare row this is a premise. The card (YbulkauyDoorCards.lean) ties it to the program's text. -/
def laid_example_com_ringwright_ringwright_errJobTaken {H : Type} : DataW H := .iface "*errors.errorString" (.ptr (.agg [.lit (.string [97, 110, 111, 116, 104, 101, 114, 32, 114, 117, 110, 32, 111, 102, 32, 116, 104, 101, 32, 106, 111, 98, 32, 105, 115, 32, 114, 117, 110, 110, 105, 110, 103])]))
def laid_example_com_ringwright_ringwright_errShortBody {H : Type} : DataW H := .iface "*errors.errorString" (.ptr (.agg [.lit (.string [109, 101, 115, 115, 97, 103, 101, 32, 98, 111, 100, 121, 32, 101, 110, 100, 115, 32, 105, 110, 115, 105, 100, 101, 32, 97, 32, 102, 105, 101, 108, 100])]))

/-- 'ringwright.LawS0089AScript': WHATEVER THE INPUT: true; the input reads as it did. -/
def lawS0089AScriptSpec : ChangeSpec := { name := "lawS0089AScript", vars := ["example.com/ringwright/ringwright.errNoJobRoom", "example.com/ringwright/ringwright.errJobTaken"], fn := fun _ => fun
  | [d, g1, g2] => { results := [.lit (.bool true)], args := [d], vars := [g1, g2] }
  | _ => none }
def lawS0089AScriptRow : OpenClaim := { program := "ybulkauydoor", sum := "f680a9e72c7f9e41674d38efc597f103699bbe79ea8aab6b56c811be656f5819", func := "example.com/ringwright/ringwright.LawS0089AScript", spec := "lawS0089AScript", inPlace := ["(*internal/sync.Mutex).Lock", "internal/race.Disable", "sync/atomic.CompareAndSwapInt32", "internal/race.Enable", "internal/race.Acquire", "(*internal/sync.Mutex).lockSlow", "internal/sync.runtime_canSpin", "internal/sync.runtime_doSpin", "internal/sync.throw", "internal/sync.runtime_nanotime", "internal/sync.runtime_SemacquireMutex", "sync/atomic.AddInt32", "(*internal/sync.Mutex).Unlock", "internal/race.ReleaseMerge", "(*internal/sync.Mutex).unlockSlow", "internal/sync.fatal", "internal/sync.runtime_Semrelease"], unfollowed := true, recurses := true, named := ["example.com/ringwright/ringwright.errNoJobRoom", "example.com/ringwright/ringwright.errJobTaken"], ifaces := true, apart := false, laid := [("example.com/ringwright/ringwright.errJobTaken", laid_example_com_ringwright_ringwright_errJobTaken)] }
def LawS0089AScriptSaid : Prop := lawS0089AScriptRow.holds Ybad.pinned (OpenSpec.ofChange lawS0089AScriptSpec)

/-- ITS FALSE NEIGHBOUR: 'it returns false'. Refute it at one input. -/
def lawS0089AScriptWrong : ChangeSpec := { name := "lawS0089AScript", vars := ["example.com/ringwright/ringwright.errNoJobRoom", "example.com/ringwright/ringwright.errJobTaken"], fn := fun _ => fun
  | [d, g1, g2] => { results := [.lit (.bool false)], args := [d], vars := [g1, g2] }
  | _ => none }
def LawS0089AScriptWrongFalsely : Prop := lawS0089AScriptRow.holds Ybad.pinned (OpenSpec.ofChange lawS0089AScriptWrong)

/-- 'ringwright.LawS0089CTakeOnce': WHATEVER THE INPUT: true; the input reads as it did. -/
def lawS0089CTakeOnceSpec : ChangeSpec := { name := "lawS0089CTakeOnce", vars := ["example.com/ringwright/ringwright.errShortBody"], fn := fun _ => fun
  | [d1, d2, g1] => { results := [.lit (.bool true)], args := [d1, d2], vars := [g1] }
  | _ => none }
def lawS0089CTakeOnceRow : OpenClaim := { program := "ybulkauydoor", sum := "f680a9e72c7f9e41674d38efc597f103699bbe79ea8aab6b56c811be656f5819", func := "example.com/ringwright/ringwright.LawS0089CTakeOnce", spec := "lawS0089CTakeOnce", named := ["example.com/ringwright/ringwright.errShortBody"], ifaces := true, apart := false, laid := [("example.com/ringwright/ringwright.errShortBody", laid_example_com_ringwright_ringwright_errShortBody)] }
def LawS0089CTakeOnceSaid : Prop := lawS0089CTakeOnceRow.holds Ybad.pinned (OpenSpec.ofChange lawS0089CTakeOnceSpec)

/-- ITS FALSE NEIGHBOUR: 'it returns false'. Refute it at one input. -/
def lawS0089CTakeOnceWrong : ChangeSpec := { name := "lawS0089CTakeOnce", vars := ["example.com/ringwright/ringwright.errShortBody"], fn := fun _ => fun
  | [d1, d2, g1] => { results := [.lit (.bool false)], args := [d1, d2], vars := [g1] }
  | _ => none }
def LawS0089CTakeOnceWrongFalsely : Prop := lawS0089CTakeOnceRow.holds Ybad.pinned (OpenSpec.ofChange lawS0089CTakeOnceWrong)

/-- 'ringwright.LawS0089CStickyError': WHATEVER THE INPUT: true; the input reads as it did. -/
def lawS0089CStickyErrorSpec : ChangeSpec := { name := "lawS0089CStickyError", vars := ["example.com/ringwright/ringwright.errShortBody"], fn := fun _ => fun
  | [d1, d2, d3, g1] => { results := [.lit (.bool true)], args := [d1, d2, d3], vars := [g1] }
  | _ => none }
def lawS0089CStickyErrorRow : OpenClaim := { program := "ybulkauydoor", sum := "f680a9e72c7f9e41674d38efc597f103699bbe79ea8aab6b56c811be656f5819", func := "example.com/ringwright/ringwright.LawS0089CStickyError", spec := "lawS0089CStickyError", named := ["example.com/ringwright/ringwright.errShortBody"], ifaces := true, apart := false, laid := [("example.com/ringwright/ringwright.errShortBody", laid_example_com_ringwright_ringwright_errShortBody)] }
def LawS0089CStickyErrorSaid : Prop := lawS0089CStickyErrorRow.holds Ybad.pinned (OpenSpec.ofChange lawS0089CStickyErrorSpec)

/-- ITS FALSE NEIGHBOUR: 'it returns false'. Refute it at one input. -/
def lawS0089CStickyErrorWrong : ChangeSpec := { name := "lawS0089CStickyError", vars := ["example.com/ringwright/ringwright.errShortBody"], fn := fun _ => fun
  | [d1, d2, d3, g1] => { results := [.lit (.bool false)], args := [d1, d2, d3], vars := [g1] }
  | _ => none }
def LawS0089CStickyErrorWrongFalsely : Prop := lawS0089CStickyErrorRow.holds Ybad.pinned (OpenSpec.ofChange lawS0089CStickyErrorWrong)

/-- 'ringwright.LawS0089CTakeRun': WHATEVER THE INPUT: true; the input reads as it did. -/
def lawS0089CTakeRunSpec : ChangeSpec := { name := "lawS0089CTakeRun", vars := ["example.com/ringwright/ringwright.errShortBody"], fn := fun _ => fun
  | [d1, d2, g1] => { results := [.lit (.bool true)], args := [d1, d2], vars := [g1] }
  | _ => none }
def lawS0089CTakeRunRow : OpenClaim := { program := "ybulkauydoor", sum := "f680a9e72c7f9e41674d38efc597f103699bbe79ea8aab6b56c811be656f5819", func := "example.com/ringwright/ringwright.LawS0089CTakeRun", spec := "lawS0089CTakeRun", named := ["example.com/ringwright/ringwright.errShortBody"], ifaces := true, apart := false, laid := [("example.com/ringwright/ringwright.errShortBody", laid_example_com_ringwright_ringwright_errShortBody)] }
def LawS0089CTakeRunSaid : Prop := lawS0089CTakeRunRow.holds Ybad.pinned (OpenSpec.ofChange lawS0089CTakeRunSpec)

/-- ITS FALSE NEIGHBOUR: 'it returns false'. Refute it at one input. -/
def lawS0089CTakeRunWrong : ChangeSpec := { name := "lawS0089CTakeRun", vars := ["example.com/ringwright/ringwright.errShortBody"], fn := fun _ => fun
  | [d1, d2, g1] => { results := [.lit (.bool false)], args := [d1, d2], vars := [g1] }
  | _ => none }
def LawS0089CTakeRunWrongFalsely : Prop := lawS0089CTakeRunRow.holds Ybad.pinned (OpenSpec.ofChange lawS0089CTakeRunWrong)

end Rows
end Go.Proofs.YbulkauyDoor
