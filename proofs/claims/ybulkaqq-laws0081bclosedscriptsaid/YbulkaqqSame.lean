import Derived.Test.YbulkaqqRows
import Derived.WalkKit
import Derived.WalkSpells
import Derived.ChangeAlike
namespace Go.Proofs.Ybulkaqq
open Go.RowKit

theorem hide {p : Prop} (h : p) : Hid p := h
theorem unhide {p : Prop} (h : Hid p) : p := h

/-- The kit's walk has no law for a store of a float: the general one, at a float. -/
theorem store_float (P : Program) (w : World) (a : Addr) (k : FloatKind) (b : Nat) (m : Mode) : (store a (.float k b) m).run P w = stored P w a (.float k b) m := run_store P w a _ m rfl

theorem fbits (b : Nat) (w : World) : (callFunc 7 #[Value.float .f64 b]).run Yba.prog w = .ok (.value (.int .u64 b)) w := by kernel_rfl

set_option maxHeartbeats 400000 in
theorem same_true (b : Nat) (w : World) :
    Calls Yba.prog 6 #[.agg #[.float .f64 b, .nilIface], .float .f64 b] w fun e w' => e = .returned (.bool true) ∧ w' = w.alloc (.cells #[.float .f64 b, .nilIface] 30) := by
  have hb := fbits
  go_enter Yba.func6, Yba.ntmps6
  go_wp2
  go_ret
  exact ⟨rfl, rfl⟩

end Go.Proofs.Ybulkaqq
