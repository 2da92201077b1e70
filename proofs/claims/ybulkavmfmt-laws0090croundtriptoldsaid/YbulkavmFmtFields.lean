import Derived.Test.YbulkavmFmtRows
import Derived.WalkKit
import Derived.WalkSpells
import Derived.Below
import Derived.Deep.OwnRows
import Derived.Deep.Draws
import Derived.Deep.LoopGhost
import Derived.Deep.QuietTactic
import Derived.BigQuiet
import Derived.WalkSmall
import Derived.Laws.BytesArg
import Derived.Stop.CallBack
import Derived.Stop.IfaceNil
import Derived.Stop.FmtTextLaws
namespace Go.Proofs.YbulkavmFmt
open Go.RowKit Go.Extern.Stop Go.Stop Go.Extern

theorem hide {p : Prop} (h : p) : Hid p := h

def fld (v e : Value) : Obj := .cells #[v, e] 26

theorem setCell_same (w : World) (b o : Nat) (v : Value) (cs : Array Value) (t : TypeId) (h : w.heap[b]? = some (.cells cs t (0, 0))) : (w.setCell ⟨b, o, none⟩ v).heap[b]? = some (.cells (cs.setIfInBounds o v) t (0, 0)) := by
  simp [World.setCell, Array.getElem?_modify, h]

/-- errors.New -/
theorem new_any (s : ByteArray) (w : World) : Calls Ybaf.prog 5 #[.string s] w fun e w' => e = .returned (.iface 35 (.pointer (some ⟨w.heap.size, 0, none⟩))) ∧ w' = w.alloc (.cells #[.string s] 37) := by
  go_enter Ybaf.func5, Ybaf.ntmps5
  go_wp2
  go_ret
  exact ⟨rfl, rfl⟩

/-- What a call on the reader leaves: old memory stands, the reader's two cells are these. -/
structure Aft (w w' : World) (r : Nat) (v e : Value) : Prop where
  below : ∀ k, k < w.heap.size → k ≠ r → w'.heap[k]? = w.heap[k]?
  size : w.heap.size ≤ w'.heap.size
  os : w'.os = w.os
  tape : w'.tape = w.tape
  output : w'.output = w.output
  rd : w'.heap[r]? = some (fld v e)

theorem Aft.set {w : World} {r : Nat} {v e : Value} (h : w.heap[r]? = some (fld v e)) (v' : Value) : Aft w (w.setCell ⟨r, 0, none⟩ v') r v' e :=
  ⟨fun k _ hk => Below.heap_setCell _ _ _ _ hk, by simp [World.setCell], rfl, rfl, rfl, by rw [setCell_same _ _ _ _ _ _ h]; rfl⟩

theorem Aft.err {w : World} {r : Nat} {v e : Value} (h : w.heap[r]? = some (fld v e)) (o : Obj) (e' : Value) : Aft w ((w.setCell ⟨r, 1, none⟩ e').alloc o) r v e' := by
  have hr : r < w.heap.size := (Array.getElem?_eq_some_iff.1 h).1
  exact ⟨fun k hk hne => by rw [Below.heap_alloc _ _ _ (by simpa [World.setCell] using hk), Below.heap_setCell _ _ _ _ hne], by simp [World.setCell], rfl, rfl, rfl,
    by rw [Below.heap_alloc _ _ _ (by simpa [World.setCell] using hr), setCell_same _ _ _ _ _ _ h]; rfl⟩

/-- next(1): it does not fit, or an error stands. -/
theorem next_no (a : Option Addr) (l c r : Nat) (ev : Value) (w : World) (h : w.heap[r]? = some (fld (.slice a l c) ev)) (hn : (ev = .nilIface ∧ l = 0) ∨ ∃ t p, ev = .iface t (.pointer p)) :
    Calls Ybaf.prog 12 #[.pointer (some ⟨r, 0, none⟩), .int .i64 1] w fun e w' => e = .returned (.slice none 0 0) ∧ ∃ p, Aft w w' r (.slice a l c) (.iface 35 (.pointer (some p))) := by
  have c0 : w.cell? ⟨r, 0, none⟩ = some (.slice a l c) := by simp [World.cell?, h, fld]
  have c1 : w.cell? ⟨r, 1, none⟩ = some ev := by simp [World.cell?, h, fld]
  have f1 : w.frozen? ⟨r, 1, none⟩ = false := by simp [World.frozen?, h, fld]
  have hr : r < w.heap.size := (Array.getElem?_eq_some_iff.1 h).1
  have HH := hide h
  clear h
  rcases hn with ⟨rfl, rfl⟩ | ⟨t, p, rfl⟩
  · go_enter Ybaf.func12, Ybaf.ntmps12
    go_wp2_with fail
    refine (new_any _ _).mono ?_
    rintro e w1 ⟨rfl, rfl⟩
    go_wp2_with fail
    go_ret
    exact ⟨rfl, _, Aft.err HH.out _ _⟩
  · go_enter Ybaf.func12, Ybaf.ntmps12
    go_wp2_with fail
    refine (new_any _ _).mono ?_
    rintro e w1 ⟨rfl, rfl⟩
    go_wp2_with fail
    go_ret
    exact ⟨rfl, _, Aft.err HH.out _ _⟩

/-- Where the rest of a slice begins. -/
def tl (g o c : Nat) : Addr := if c = 1 then ⟨g, o, none⟩ else ⟨g, o + 1, none⟩

/-- next(1): it fits. -/
theorem next_yes (g o l c r : Nat) (w : World) (h : w.heap[r]? = some (fld (.slice (some ⟨g, o, none⟩) l c) .nilIface)) (hl : 0 < l) (hc : l ≤ c) (hcB : c < 9223372036854775808) :
    Calls Ybaf.prog 12 #[.pointer (some ⟨r, 0, none⟩), .int .i64 1] w fun e w' => e = .returned (.slice (some ⟨g, o, none⟩) 1 1) ∧ Aft w w' r (.slice (some (tl g o c)) (l - 1) (c - 1)) .nilIface := by
  have c0 : w.cell? ⟨r, 0, none⟩ = some (.slice (some ⟨g, o, none⟩) l c) := by simp [World.cell?, h, fld]
  have c1 : w.cell? ⟨r, 1, none⟩ = some .nilIface := by simp [World.cell?, h, fld]
  have f0 : w.frozen? ⟨r, 0, none⟩ = false := by simp [World.frozen?, h, fld]
  have HH := hide h
  clear h
  have hz : ¬ (l : Int) < 1 := by omega
  have hz2 : (1 : Int) ≤ (c : Int) := by omega
  unfold tl
  by_cases h1 : c = 1
  · subst h1
    obtain rfl : l = 1 := by omega
    go_enter Ybaf.func12, Ybaf.ntmps12
    go_wp2
    go_ret
    exact ⟨rfl, Aft.set HH.out _⟩
  · rw [if_neg h1]
    go_enter Ybaf.func12, Ybaf.ntmps12
    go_wp2
    go_ret
    exact ⟨rfl, Aft.set HH.out _⟩

theorem nil_neq (g o : Nat) (w : World) : (binOp .neq 22 (.slice (some ⟨g, o, none⟩) 1 1) (.slice none 0 0)).run Ybaf.prog w = .ok (.bool true) w := by
  have h : ∀ d : Nat, (Op.equalIn (d + 1) 22 (.slice (some ⟨g, o, none⟩) 1 1) (.slice none 0 0)).run Ybaf.prog w = .ok false w := fun d => by simp [Op.equalIn, run_underlying Ybaf.underlying22]
  simp only [binOp]
  simp [Op.equal, Op.maxDepth, h 9999]
theorem nil_same_not (w : World) : (binOp .neq 22 (.slice none 0 0) (.slice none 0 0)).run Ybaf.prog w = .ok (.bool false) w := by
  have h : ∀ d : Nat, (Op.equalIn (d + 1) 22 (.slice none 0 0) (.slice none 0 0)).run Ybaf.prog w = .ok true w := fun d => by simp [Op.equalIn, run_underlying Ybaf.underlying22]
  simp only [binOp]
  simp [Op.equal, Op.maxDepth, h 9999]

theorem byte_no (a : Option Addr) (l c r : Nat) (ev : Value) (w : World) (h : w.heap[r]? = some (fld (.slice a l c) ev)) (hn : (ev = .nilIface ∧ l = 0) ∨ ∃ t p, ev = .iface t (.pointer p)) :
    Calls Ybaf.prog 10 #[.pointer (some ⟨r, 0, none⟩)] w fun e w' => e = .returned (.int .u8 0) ∧ ∃ p, Aft w w' r (.slice a l c) (.iface 35 (.pointer (some p))) := by
  have HN := hide (next_no a l c r ev w h hn)
  clear h hn
  have hnn := nil_same_not
  go_enter Ybaf.func10, Ybaf.ntmps10
  go_wp2_with fail
  refine HN.out.mono ?_
  rintro e w1 ⟨rfl, p, hA⟩
  have HA := hide hA
  clear hA
  go_wp2
  go_ret
  exact ⟨rfl, p, HA.out⟩

theorem byte_yes (g o l c r : Nat) (x : Int) (w : World) (h : w.heap[r]? = some (fld (.slice (some ⟨g, o, none⟩) l c) .nilIface)) (hl : 0 < l) (hc : l ≤ c) (hcB : c < 9223372036854775808) (hx : w.cell? ⟨g, o, none⟩ = some (.int .u8 x)) (hgr : g ≠ r) :
    Calls Ybaf.prog 10 #[.pointer (some ⟨r, 0, none⟩)] w fun e w' => e = .returned (.int .u8 x) ∧ Aft w w' r (.slice (some (tl g o c)) (l - 1) (c - 1)) .nilIface := by
  have HN := hide (next_yes g o l c r w h hl hc hcB)
  have hg : g < w.heap.size := World.block_lt_of_cell? _ _ hx
  have hnn := nil_neq g o
  go_enter Ybaf.func10, Ybaf.ntmps10
  go_wp2_with fail
  refine HN.out.mono ?_
  rintro e w1 ⟨rfl, hA⟩
  have x1 : w1.cell? ⟨g, o, none⟩ = some (.int .u8 x) := by rw [World.cell?_of_block (w := w) (hA.below g hg hgr)]; exact hx
  have HA := hide hA
  clear hA
  go_wp2
  go_ret
  exact ⟨rfl, HA.out⟩

theorem flag_no (a : Option Addr) (l c r : Nat) (ev : Value) (w : World) (h : w.heap[r]? = some (fld (.slice a l c) ev)) (hn : (ev = .nilIface ∧ l = 0) ∨ ∃ t p, ev = .iface t (.pointer p)) :
    Calls Ybaf.prog 6 #[.pointer (some ⟨r, 0, none⟩)] w fun e w' => e = .returned (.bool false) ∧ ∃ p, Aft w w' r (.slice a l c) (.iface 35 (.pointer (some p))) := by
  have HN := hide (byte_no a l c r ev w h hn)
  clear h hn
  go_enter Ybaf.func6, Ybaf.ntmps6
  go_wp2_with fail
  refine HN.out.mono ?_
  rintro e w1 ⟨rfl, p, hA⟩
  have c1 : w1.cell? ⟨r, 1, none⟩ = some (.iface 35 (.pointer (some p))) := by simp [World.cell?, hA.rd, fld]
  have HA := hide hA
  clear hA
  go_wp2_with fail
  go_ret
  exact ⟨rfl, p, HA.out⟩

theorem flag_yes (g o l c r : Nat) (x : Int) (w : World) (h : w.heap[r]? = some (fld (.slice (some ⟨g, o, none⟩) l c) .nilIface)) (hl : 0 < l) (hc : l ≤ c) (hcB : c < 9223372036854775808) (hx : w.cell? ⟨g, o, none⟩ = some (.int .u8 x)) (hgr : g ≠ r) (hx1 : x ≤ 1) :
    Calls Ybaf.prog 6 #[.pointer (some ⟨r, 0, none⟩)] w fun e w' => e = .returned (.bool (x == 1)) ∧ Aft w w' r (.slice (some (tl g o c)) (l - 1) (c - 1)) .nilIface := by
  have HN := hide (byte_yes g o l c r x w h hl hc hcB hx hgr)
  clear h hx
  have hz : ¬ (1 : Int) < x := by omega
  go_enter Ybaf.func6, Ybaf.ntmps6
  go_wp2_with fail
  refine HN.out.mono ?_
  rintro e w1 ⟨rfl, hA⟩
  have c1 : w1.cell? ⟨r, 1, none⟩ = some .nilIface := by simp [World.cell?, hA.rd, fld]
  have HA := hide hA
  clear hA
  go_wp2_with fail
  go_ret
  exact ⟨rfl, HA.out⟩

end Go.Proofs.YbulkavmFmt
