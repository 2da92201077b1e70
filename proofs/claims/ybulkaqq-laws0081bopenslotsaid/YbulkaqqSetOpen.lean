import Derived.Test.YbulkaqqSame
import Derived.RegionTactic
namespace Go.Proofs.Ybulkaqq
open Go.RowKit
attribute [local go_sem] store_float

set_option maxHeartbeats 400000 in
/-- 'set' at an open cell: the value goes into the stack's slot. -/
theorem set_open (M C S s l : Nat) (v : Nat) (x0 x1 : Value) (w : World) (hs : s < l)
    (hC0 : w.cell? ⟨C, 0, none⟩ = some (.bool true)) (hC1 : w.cell? ⟨C, 1, none⟩ = some (.int .i64 s))
    (hM3 : w.cell? ⟨M, 3, none⟩ = some (.slice (some ⟨S, 0, none⟩) l l))
    (hS0 : w.cell? ⟨S, s * 2, none⟩ = some x0) (hS1 : w.cell? ⟨S, s * 2 + 1, none⟩ = some x1)
    (hF0 : w.frozen? ⟨S, s * 2, none⟩ = false) (hF1 : w.frozen? ⟨S, s * 2 + 1, none⟩ = false)
    (bM : M < w.heap.size) (bC : C < w.heap.size) (bS : S < w.heap.size) :
    Calls Yba.prog 5 #[.pointer (some ⟨M, 0, none⟩), .pointer (some ⟨C, 0, none⟩), .agg #[.float .f64 v, .nilIface]] w fun e w' => e = .returned (.tuple #[]) ∧
      w' = (((w.setCell ⟨S, s * 2, none⟩ (.float .f64 v)).setCell ⟨S, s * 2 + 1, none⟩ .nilIface).alloc (.cells #[.float .f64 v, .nilIface] 30)).drew := by
  have hsl : (s : Int) < (l : Int) := by omega
  go_enter Yba.func5, Yba.ntmps5
  go_wp2
  go_region
  all_goals (go_wp2; refine bodyPost_ret (results_none rfl _ _ _) rfl ?_; exact ⟨rfl, rfl⟩)

end Go.Proofs.Ybulkaqq
