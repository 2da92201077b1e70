import Derived.Test.YbulkauyDoorOnce
import Derived.Test.YbulkauyDoorTie
import Derived.Test.YbulkauyDoorCards
import Derived.ProofKit
import Derived.OpenShut
import Derived.OpenVars
import Derived.Deep.Slices
import Derived.Stop.LaidErr
import Derived.LaidMore
import Derived.Stop.Joined
namespace Go.Proofs.YbulkauyDoor
open Go.ChangeShapes Go.WideShapes Go.ChangeAt Go.RowKit Go.Deep

theorem own : ownKnob Ybad.prog.godebug = none := by kernel_rfl
theorem laidOut : laidOutB Ybad.prog = true := by kernel_rfl
theorem cells5 : Ybad.prog.cellsOf 5 = 1 := by kernel_rfl

theorem dat_open {H : Type} {enc : TypeId × Value → H} {W : World} {fuel : Nat} {a : Option Addr} {n cap : Nat} {x : DataW H × List MemPlace} (h : DataW.trod enc Ybad.prog W 0 (fun _ => true) true fuel 65 [.slice a n cap] = some x) :
    ∃ b o f, Dat W a n cap b o f ∧ (0 < n → b < W.heap.size) ∧ ∀ i, i < n → 0 ≤ f i ∧ f i < 256 := by
  rcases open_slice1 Ybad.underlying65 cells5 h with ⟨hcs, hx⟩ | ⟨ad, l, c, m, q, V, D, Pl, hcs, _, hl, hm, hmm, hxx, hx⟩
  · simp at hcs
    obtain ⟨rfl, rfl, rfl⟩ := hcs
    exact ⟨0, 0, fun _ => 0, ⟨fun h => absurd h (Nat.lt_irrefl _), fun i hi => absurd hi (Nat.not_lt_zero _), fun _ => ⟨rfl, rfl⟩⟩, fun h => absurd h (Nat.lt_irrefl _), fun i hi => absurd hi (Nat.not_lt_zero _)⟩
  · simp at hcs
    obtain ⟨rfl, rfl, rfl⟩ := hcs
    simp only [if_true] at hmm
    obtain ⟨b, off, spot⟩ := ad
    have hz : ∀ i, i < n → ∃ z : Int, W.cell? ((⟨b, off, spot⟩ : Addr).add i) = some (.int .u8 z) ∧ 0 ≤ z ∧ z < 256 := fun i hi => by
      obtain ⟨h1, h2⟩ := hx i (by omega)
      obtain ⟨z, e1, _, hw⟩ := DataW.trod_int Ybad.underlying5 h2
      simp at e1
      have hb := bounds_u8 hw
      exact ⟨z, by rw [h1, e1], hb.1, by omega⟩
    obtain ⟨f, hf⟩ := choose_lt hz
    by_cases h0 : 0 < n
    · have hs : spot = none := by simpa [Addr.add] using World.cell?_spot (hf 0 h0).1
      subst hs
      refine ⟨b, off, f, ⟨fun _ => rfl, fun i hi => ?_, fun h => by cases h⟩, fun _ => World.block_lt_of_cell? _ _ (hf 0 h0).1, fun i hi => (hf i hi).2⟩
      have e : (⟨b, off, none⟩ : Addr).add i = ⟨b, off + i, none⟩ := by simp [Addr.add]
      rw [← e]
      exact (hf i hi).1
    · exact ⟨b, off, f, ⟨fun h => absurd h h0, fun i hi => by omega, fun h => by cases h⟩, fun h => absurd h h0, fun i hi => by omega⟩

/-- The sentinel's cell, out of what the row lists. -/
theorem err_of_laid {W : World} (h : laidMetH Ybad.prog Rows.lawS0089CTakeOnceRow.laid W) : ∃ a : Addr, W.cell? ⟨1, 0, none⟩ = some (.iface 83 (.pointer (some a))) := by
  rw [MakeChecks.laidMetH_plain _ _ _ (by kernel_rfl)] at h
  have hg : Ybad.prog.globalNamed (Rows.lawS0089CTakeOnceSpec.vars.headD Rows.lawS0089CTakeOnceSpec.name) = some 1 := by kernel_rfl
  obtain ⟨a, s, hv, _⟩ := laid_sentinel (g := 1) (ti := 56) (tp := 83) (te := 85) (ts := 9) h hg (by kernel_rfl) Ybad.underlying56
    (fun u hu => typeName_ptr_named (nm := "errors.errorString") (by kernel_rfl) (by kernel_rfl) (by decide) u hu) Ybad.underlying83 Ybad.underlying85 rfl rfl Ybad.underlying9 (by kernel_rfl) (by kernel_rfl)
  exact ⟨a, by simpa using World.var?_cell hg hv 0⟩

theorem door_met (os : Os) (args : Array Value) : laidMetH Ybad.prog Rows.lawS0089CTakeOnceRow.laid ((World.doorLaid Ybad.prog 400 os).forCall (fun _ _ => 0) ⟨#[], args, []⟩).memory :=
  laidMetH_of_parts3 (fuel := 8) (laidMet_of_run' 8 (by kernel_rfl) (by kernel_rfl)) (by kernel_rfl) (by kernel_rfl)

end Go.Proofs.YbulkauyDoor
