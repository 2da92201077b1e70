import Derived.Test.YbulkavmFmtFields
import Derived.Stop.Texts
namespace Go.Proofs.YbulkavmFmt
open Go.RowKit Go.Extern.Stop Go.Stop Go.Extern

theorem call13 (args : Array Value) (w : World) : (callFunc 13 args).run Ybaf.prog w = ((FmtStop.errorf #[9, 42] #[24] args).run Ybaf.prog w).andThen fun v w' => .ok (.value v) w' :=
  run_callFunc_extern Ybaf.func13 (by kernel_rfl) (by kernel_rfl) (by kernel_rfl) (by kernel_rfl) args w
theorem guardE (name : String) (w : World) : (FmtStop.guard name).run Ybaf.prog w = .ok () w := by kernel_rfl

/-- The format: a flag of %d, neither 0 nor 1. -/
def fmtS : ByteArray := ⟨#[97, 32, 102, 108, 97, 103, 32, 111, 102, 32, 37, 100, 44, 32, 110, 101, 105, 116, 104, 101, 114, 32, 48, 32, 110, 111, 114, 32, 49]⟩
theorem fmt0 : FmtStop.printed? ⟨#[97, 32, 102, 108, 97, 103, 32, 111, 102, 32, 37, 100, 44, 32, 110, 101, 105, 116, 104, 101, 114, 32, 48, 32, 110, 111, 114, 32, 49]⟩ 1 = some [(0, 100, false)] := by kernel_rfl
theorem fmt0r (w : World) : (FmtDoors.printed ⟨#[97, 32, 102, 108, 97, 103, 32, 111, 102, 32, 37, 100, 44, 32, 110, 101, 105, 116, 104, 101, 114, 32, 48, 32, 110, 111, 114, 32, 49]⟩ 1).run Ybaf.prog w = .ok [(0, 100, false)] w := by kernel_rfl
def shape5 : List UInt8 := [6, 5, 0, 0, 0, 0, 0, 0, 0, 117, 105, 110, 116, 56]
theorem op5_100 (name : String) (x : Int) (w : World) : (FmtStop.operand name true 100 false (.iface 5 (.int .u8 x))).run Ybaf.prog w = .ok (shape5, Go.Extern.Stop.digits 8 (x % 2 ^ 64).toNat) w := by kernel_rfl
theorem ptrE (w : World) : (FmtStop.ptrTo "errors.errorString").run Ybaf.prog w = .ok 35 w := by kernel_rfl
theorem elemE (w : World) : (elemOf 35).run Ybaf.prog w = .ok 37 w := by kernel_rfl

set_option maxRecDepth 1000000 in
set_option maxHeartbeats 400000 in
theorem errorf_any (F : Interp) (x : Int) (blk : Nat) (w : World) (hF : F.answers w.tape) (hc : w.cell? ⟨blk, 0, none⟩ = some (.iface 5 (.int .u8 x))) :
    Calls Ybaf.prog 11 #[.string ⟨#[97, 32, 102, 108, 97, 103, 32, 111, 102, 32, 37, 100, 44, 32, 110, 101, 105, 116, 104, 101, 114, 32, 48, 32, 110, 111, 114, 32, 49]⟩, .slice (some ⟨blk, 0, none⟩) 1 1] w fun e w' =>
      ∃ t p o, e = .returned (.iface t (.pointer (some p))) ∧ w' = (w.alloc o).drew := by
  have hF' := answers_open hF
  have h1 := call13
  have h2 := guardE
  have h3 := fmt0
  have h4 := fmt0r
  have h5 := op5_100
  have h6 := ptrE
  have h7 := elemE
  go_enter Ybaf.func11, Ybaf.ntmps11
  go_wp2
  go_ret
  exact ⟨_, _, _, rfl, rfl⟩

end Go.Proofs.YbulkavmFmt
