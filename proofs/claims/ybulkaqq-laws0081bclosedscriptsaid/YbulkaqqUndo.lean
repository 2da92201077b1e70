import Derived.Test.YbulkaqqSetClosed
import Derived.Deep.LoopGhost
import Derived.Deep.Light
namespace Go.Proofs.Ybulkaqq
open Go.RowKit
attribute [local go_sem] store_float

/-- The log's cells: an entry is a cell's number and what it held. -/
def flat (D : Nat) (es : List (Nat × Nat)) : List Value := es.flatMap fun e => [.pointer (some ⟨D + e.1, 0, none⟩), .float .f64 e.2, .nilIface]

theorem flat_length (D : Nat) (es : List (Nat × Nat)) : (flat D es).length = es.length * 3 := by
  induction es with
  | nil => rfl
  | cons e es ih => simp only [flat, List.flatMap_cons, List.length_append, List.length_cons, List.length_nil] at ih ⊢; omega

theorem flat_snoc (D : Nat) (es : List (Nat × Nat)) (i x : Nat) : flat D (es ++ [(i, x)]) = flat D es ++ [.pointer (some ⟨D + i, 0, none⟩), .float .f64 x, .nilIface] := by simp [flat]

theorem flat_at (D : Nat) : ∀ (es : List (Nat × Nat)) (q : Nat) (e : Nat × Nat), es[q]? = some e →
    (flat D es)[q * 3]? = some (.pointer (some ⟨D + e.1, 0, none⟩)) ∧ (flat D es)[q * 3 + 1]? = some (.float .f64 e.2) ∧ (flat D es)[q * 3 + 2]? = some .nilIface
  | [], q, e, h => by simp at h
  | f :: es, 0, e, h => by
    simp at h; subst h
    simp [flat]
  | f :: es, q + 1, e, h => by
    have ih := flat_at D es q e (by simpa using h)
    have e0 : flat D (f :: es) = [.pointer (some ⟨D + f.1, 0, none⟩), .float .f64 f.2, .nilIface] ++ flat D es := by simp [flat]
    rw [e0, show (q + 1) * 3 = q * 3 + 3 by omega]
    refine ⟨?_, ?_, ?_⟩
    · rw [List.getElem?_append_right (by simp)]; simpa using ih.1
    · rw [List.getElem?_append_right (by simp)]; simpa using ih.2.1
    · rw [List.getElem?_append_right (by simp)]; simpa using ih.2.2

/-- What the cells hold when the entries have been undone. -/
def und (es : List (Nat × Nat)) (cur : Nat → Nat) : Nat → Nat := es.foldl (fun c e i => if i = e.1 then e.2 else c i) cur

theorem und_snoc (es : List (Nat × Nat)) (cur : Nat → Nat) (e : Nat × Nat) (i : Nat) : und (es ++ [e]) cur i = if i = e.1 then e.2 else und es cur i := by simp [und, List.foldl_append]

structure Undo (w wr : World) (n D base : Nat) (kp : Nat → Int) (cur : Nat → Nat) (es : List (Nat × Nat)) (vc : Value) (q : Nat) : Prop where
  os : wr.os = w.os
  tape : wr.tape = w.tape
  output : wr.output = w.output
  size : w.heap.size ≤ wr.heap.size
  cels : ∀ i, i < n → wr.heap[D + i]? = some (cellB i (und (es.take q) cur i) (kp i))
  chg : wr.ownsRow base 47 3 vc es.length (flat D es)
  rest : ∀ k, k < w.heap.size → (k < D ∨ D + n ≤ k) → wr.heap[k]? = w.heap[k]?

theorem undo_step {w wr : World} {n D base : Nat} {kp : Nat → Int} {cur : Nat → Nat} {es : List (Nat × Nat)} {vc : Value} {q : Nat} (h : Undo w wr n D base kp cur es vc q) {e : Nat × Nat} (he : es[q]? = some e) (hen : e.1 < n) (o : Obj) {W : World}
    (hW : W = ((wr.setCell ⟨D + e.1, 2, none⟩ (.float .f64 e.2)).setCell ⟨D + e.1, 3, none⟩ .nilIface).alloc o) :
    Undo w W n D base kp cur es vc (q + 1) := by
  subst hW
  have hlt : ∀ i, i < n → D + i < wr.heap.size := fun i hi => (Array.getElem?_eq_some_iff.1 (h.cels i hi)).1
  have ho : ∀ k, k < wr.heap.size → k ≠ D + e.1 → (((wr.setCell ⟨D + e.1, 2, none⟩ (.float .f64 e.2)).setCell ⟨D + e.1, 3, none⟩ .nilIface).alloc o).heap[k]? = wr.heap[k]? := fun k hk h1 => by
    rw [Below.heap_alloc _ _ _ (by simpa [World.setCell] using hk), Below.heap_setCell _ _ _ _ h1, Below.heap_setCell _ _ _ _ h1]
  have ht : es.take (q + 1) = es.take q ++ [e] := by
    have hq : q < es.length := (List.getElem?_eq_some_iff.1 he).1
    rw [List.take_add_one, he]
    rfl
  refine ⟨h.os, h.tape, h.output, ?_, fun i hi => ?_, own_other h.chg fun k c hk => ?_, fun k hk h1 => ?_⟩
  · have := h.size
    simp [World.setCell]; omega
  · rw [ht, und_snoc]
    by_cases hie : i = e.1
    · subst hie
      rw [if_pos rfl, Below.heap_alloc _ _ _ (by simpa [World.setCell] using hlt _ hi), setCell_same _ _ _ _ _ _ (setCell_same _ _ _ _ _ _ (h.cels _ hi))]
      rfl
    · rw [if_neg hie, ho _ (hlt i hi) (by omega)]
      exact h.cels i hi
  · have hk' : k < wr.heap.size := (Array.getElem?_eq_some_iff.1 hk).1
    refine ho k hk' fun e1 => ?_
    subst e1
    rw [h.cels _ hen] at hk
    simp [cellB] at hk
  · rw [ho k (by have := h.size; omega) (by omega)]
    exact h.rest k hk h1

set_option maxHeartbeats 400000 in
theorem undo_any (w : World) (M n D base S : Nat) (runs : Int) (kp : Nat → Int) (cur : Nat → Nat) (es : List (Nat × Nat)) (ao : Option Addr) (c : Nat)
    (hM : w.heap[M]? = some (machB S runs (.slice ao es.length c))) (hcel : ∀ i, i < n → w.heap[D + i]? = some (cellB i (cur i) (kp i))) (hown : w.ownsRow base 47 3 (.slice ao es.length c) es.length (flat D es))
    (hes : ∀ e ∈ es, e.1 < n) (hl : es.length ≤ 2000) :
    Calls Yba.prog 8 #[.pointer (some ⟨M, 0, none⟩)] w fun e w' => e = .returned (.tuple #[]) ∧ Undo w w' n D base kp cur es (.slice ao es.length c) es.length := by
  have m10 : w.cell? ⟨M, 10, none⟩ = some (.slice ao es.length c) := by simp [World.cell?, hM, machB]
  have H0 := hide (show Undo w w n D base kp cur es (.slice ao es.length c) 0 from ⟨rfl, rfl, rfl, Nat.le_refl _, fun i hi => by simpa [und] using hcel i hi, hown, fun _ _ _ => rfl⟩)
  clear hM hcel hown
  go_enter Yba.func8, Yba.ntmps8
  go_wp2
  go_loopg [9] es.length (fun g i wr => ∃ q : Nat, q ≤ es.length ∧ g = es.length - q ∧ i = .int .i64 q ∧ Undo w wr n D base kp cur es (.slice ao es.length c) q)
  case atStart => exact ⟨0, Nat.zero_le _, rfl, rfl, unhide H0⟩
  case round =>
    clear H0
    obtain ⟨q, hq, rfl, rfl, hU⟩ := hrel
    by_cases hqz : q < es.length
    · obtain ⟨e, he⟩ : ∃ e, es[q]? = some e := ⟨_, List.getElem?_eq_getElem hqz⟩
      have hen := hes e (List.mem_of_getElem? he)
      obtain ⟨e0, e1, e2⟩ := flat_at D es q e he
      have hgo : ∃ g, ao = some ⟨g, 0, none⟩ := by
        rcases hU.chg.2 with ⟨_, h⟩ | ⟨g, cap, cu, hv, _⟩
        · omega
        · simp at hv
          exact ⟨g, hv.1⟩
      obtain ⟨g, rfl⟩ := hgo
      have r0 := (hU.chg.cellAt (q * 3) (by omega)).trans e0
      have r1 := (hU.chg.cellAt (q * 3 + 1) (by omega)).trans e1
      have r2 := (hU.chg.cellAt (q * 3 + 2) (by omega)).trans e2
      have hce := hU.cels _ hen
      have hlt : D + e.1 < wr.heap.size := (Array.getElem?_eq_some_iff.1 hce).1
      have c2 : wr.cell? ⟨D + e.1, 2, none⟩ = some (.float .f64 (und (es.take q) cur e.1)) := by simp [World.cell?, hce, cellB]
      have c3 : wr.cell? ⟨D + e.1, 3, none⟩ = some .nilIface := by simp [World.cell?, hce, cellB]
      have f2 : wr.frozen? ⟨D + e.1, 2, none⟩ = false := by simp [World.frozen?, hce, cellB]
      have f3 : wr.frozen? ⟨D + e.1, 3, none⟩ = false := by simp [World.frozen?, hce, cellB]
      have hz : (q : Int) < (es.length : Int) := by omega
      have HE := hide he
      clear he e0 e1 e2 hce
      go_wp2
      go_roundg (es.length - (q + 1))
      case measure => omega
      case rel => exact ⟨q + 1, by omega, rfl, by go_num, undo_step hU (unhide HE) hen _ rfl⟩
    · go_wp2
      obtain rfl : q = es.length := by omega
      go_end0
      exact ⟨rfl, hU⟩

end Go.Proofs.Ybulkaqq
