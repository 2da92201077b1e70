import Derived.Test.YbulkaqqUndo
import Derived.Deep.OwnRows
namespace Go.Proofs.Ybulkaqq
open Go.RowKit

/-- While the cells are made: k of them. -/
structure Mk (w wr : World) (n : Nat) (F : Nat → Nat) (K : Nat → Int) (runs : Int) (k : Nat) : Prop where
  below : Below w.heap.size w wr
  size : wr.heap.size = w.heap.size + 1 + 1 + 1 + 1 + k
  ptrs : wr.rowIs w.heap.size 28 n (fun i => if i < k then .pointer (some ⟨w.heap.size + 1 + 1 + 1 + 1 + i, 0, none⟩) else .pointer none)
  orig : wr.rowIs (w.heap.size + 1) 3 n (fun i => if i < k then .int .i64 (K i) else .int .i64 0)
  lgd : wr.rowIs (w.heap.size + 1 + 1) 4 n (fun i => if i < k then .bool (K i == runs) else .bool false)
  cur : wr.rowIs (w.heap.size + 1 + 1 + 1) 27 n (fun i => if i < k then .float .f64 (F i) else .float .f64 0)
  cels : ∀ i, i < k → wr.heap[w.heap.size + 1 + 1 + 1 + 1 + i]? = some (cellB i (F i) (K i))

theorem mk_start (w : World) (n : Nat) (F : Nat → Nat) (K : Nat → Int) (runs : Int) :
    Mk w ((((w.alloc (.cells (madeCells #[.pointer none] n) 28)).alloc (.cells (madeCells #[.int .i64 0] n) 3)).alloc (.cells (madeCells #[.bool false] n) 4)).alloc (.cells (madeCells #[.float .f64 0] n) 27)) n F K runs 0 := by
  have h2 := World.rowIs_made (w.alloc (.cells (madeCells #[.pointer none] n) 28)) (.int .i64 0) n 3
  have h3 := World.rowIs_made ((w.alloc (.cells (madeCells #[.pointer none] n) 28)).alloc (.cells (madeCells #[.int .i64 0] n) 3)) (.bool false) n 4
  have h4 := World.rowIs_made (((w.alloc (.cells (madeCells #[.pointer none] n) 28)).alloc (.cells (madeCells #[.int .i64 0] n) 3)).alloc (.cells (madeCells #[.bool false] n) 4)) (.float .f64 0) n 27
  simp only [World.size_alloc] at h2 h3 h4
  refine ⟨((((Below.refl _ _).alloc (Nat.le_refl _) _).alloc (by simp) _).alloc (by simp; omega) _).alloc (by simp; omega) _, by simp, ?_, ?_, ?_, ?_, fun i hi => absurd hi (Nat.not_lt_zero _)⟩
  · exact ((((World.rowIs_made w (.pointer none) n 28).alloc _).alloc _).alloc _).congr (fun i _ => by simp)
  · exact ((h2.alloc _).alloc _).congr (fun i _ => by simp)
  · exact (h3.alloc _).congr (fun i _ => by simp)
  · exact h4.congr (fun i _ => by simp)

/-- A row, one cell more filled. -/
theorem row_fill {w : World} {b : Nat} {t : TypeId} {n k : Nat} {f g : Nat → Value} (h : w.rowIs b t n (fun i => if i < k then f i else g i)) : (w.setCell ⟨b, k, none⟩ (f k)).rowIs b t n (fun i => if i < k + 1 then f i else g i) := by
  refine (h.set k _).congr fun i _ => ?_
  by_cases e : i = k
  · subst e; simp
  · rw [if_neg e]
    by_cases hlt : i < k
    · rw [if_pos hlt, if_pos (by omega)]
    · rw [if_neg hlt, if_neg (by omega)]

theorem mk_step {w wr : World} {n : Nat} {F : Nat → Nat} {K : Nat → Int} {runs : Int} {k : Nat} (h : Mk w wr n F K runs k) {x : Int} (hx : x = K k) {u : Bool} (hu : u = (x == runs)) :
    Mk w (((((wr.setCell ⟨w.heap.size + 1, k, none⟩ (.int .i64 x)).setCell ⟨w.heap.size + 1 + 1, k, none⟩ (.bool u)).setCell ⟨w.heap.size + 1 + 1 + 1, k, none⟩ (.float .f64 (F k))).alloc (cellB k (F k) x)).setCell ⟨w.heap.size, k, none⟩ (.pointer (some ⟨w.heap.size + 1 + 1 + 1 + 1 + k, 0, none⟩))) n F K runs (k + 1) := by
  subst hx hu
  have hsz : (((wr.setCell ⟨w.heap.size + 1, k, none⟩ (.int .i64 (K k))).setCell ⟨w.heap.size + 1 + 1, k, none⟩ (.bool (K k == runs))).setCell ⟨w.heap.size + 1 + 1 + 1, k, none⟩ (.float .f64 (F k))).heap.size = w.heap.size + 1 + 1 + 1 + 1 + k := by
    simp [World.setCell, h.size]
  refine ⟨((((h.below.setCell (by show w.heap.size ≤ w.heap.size + 1; omega) _).setCell (by show w.heap.size ≤ w.heap.size + 1 + 1; omega) _).setCell (by show w.heap.size ≤ w.heap.size + 1 + 1 + 1; omega) _).alloc (by omega) _).setCell (Nat.le_refl _) _, ?_, ?_, ?_, ?_, ?_, ?_⟩
  · have e : ∀ (X : World) (p : Addr) (v : Value), (X.setCell p v).heap.size = X.heap.size := fun X p v => by simp [World.setCell]
    rw [e, World.size_alloc, hsz]; omega
  · exact row_fill (f := fun i => .pointer (some ⟨w.heap.size + 1 + 1 + 1 + 1 + i, 0, none⟩)) ((((h.ptrs.setOther (by show _ ≠ w.heap.size + 1; omega) _).setOther (by show _ ≠ w.heap.size + 1 + 1; omega) _).setOther (by show _ ≠ w.heap.size + 1 + 1 + 1; omega) _).alloc _)
  · exact ((((row_fill (f := fun i => .int .i64 (K i)) h.orig).setOther (by show _ ≠ w.heap.size + 1 + 1; omega) _).setOther (by show _ ≠ w.heap.size + 1 + 1 + 1; omega) _).alloc _).setOther (by show _ ≠ w.heap.size; omega) _
  · exact (((row_fill (f := fun i => .bool (K i == runs)) (h.lgd.setOther (by show _ ≠ w.heap.size + 1; omega) _)).setOther (by show _ ≠ w.heap.size + 1 + 1 + 1; omega) _).alloc _).setOther (by show _ ≠ w.heap.size; omega) _
  · exact ((row_fill (f := fun i => .float .f64 (F i)) ((h.cur.setOther (by show _ ≠ w.heap.size + 1; omega) _).setOther (by show _ ≠ w.heap.size + 1 + 1; omega) _)).alloc _).setOther (by show _ ≠ w.heap.size; omega) _
  · intro i hi
    rw [Below.heap_setCell _ _ _ _ (by show _ ≠ w.heap.size; omega)]
    by_cases e : i = k
    · subst e
      have := heap_alloc_new (((wr.setCell ⟨w.heap.size + 1, i, none⟩ (.int .i64 (K i))).setCell ⟨w.heap.size + 1 + 1, i, none⟩ (.bool (K i == runs))).setCell ⟨w.heap.size + 1 + 1 + 1, i, none⟩ (.float .f64 (F i))) (cellB i (F i) (K i))
      rw [hsz] at this
      exact this
    · rw [Below.heap_alloc _ _ _ (by omega), Below.heap_setCell _ _ _ _ (by show _ ≠ w.heap.size + 1 + 1 + 1; omega), Below.heap_setCell _ _ _ _ (by show _ ≠ w.heap.size + 1 + 1; omega), Below.heap_setCell _ _ _ _ (by show _ ≠ w.heap.size + 1; omega)]
      exact h.cels i (by omega)

/-- The law's state: what the law's own arrays hold (lgf, cur, ix, bf), what the machine's side holds (kp, cm: the cells; es: the log). -/
structure St (w wr : World) (n : Nat) (K : Nat → Int) (runs : Int) (lgf : Nat → Bool) (cu : Nat → Nat) (ix bf : List Nat) (kp : Nat → Int) (cm : Nat → Nat) (es : List (Nat × Nat)) (vi vb vc : Value) : Prop where
  below : Below w.heap.size w wr
  size : w.heap.size + 1 + 1 + 1 + 1 + n + 1 + 1 ≤ wr.heap.size
  ptrs : wr.rowIs w.heap.size 28 n (fun i => .pointer (some ⟨w.heap.size + 1 + 1 + 1 + 1 + i, 0, none⟩))
  orig : wr.rowIs (w.heap.size + 1) 3 n (fun i => .int .i64 (K i))
  lgd : wr.rowIs (w.heap.size + 1 + 1) 4 n (fun i => .bool (lgf i))
  cur : wr.rowIs (w.heap.size + 1 + 1 + 1) 27 n (fun i => .float .f64 (cu i))
  cels : ∀ i, i < n → wr.heap[w.heap.size + 1 + 1 + 1 + 1 + i]? = some (cellB i (cm i) (kp i))
  stk : wr.heap[w.heap.size + 1 + 1 + 1 + 1 + n]? = some (.cells #[.float .f64 0, .nilIface] 30)
  mac : wr.heap[w.heap.size + 1 + 1 + 1 + 1 + n + 1]? = some (machB (w.heap.size + 1 + 1 + 1 + 1 + n) runs vc)
  chg : wr.ownsRow (w.heap.size + 1 + 1 + 1 + 1 + n + 1 + 1) 47 3 vc es.length (flat (w.heap.size + 1 + 1 + 1 + 1) es)
  oix : wr.ownsRow (w.heap.size + 1 + 1 + 1 + 1 + n + 1 + 1) 3 1 vi ix.length (ix.map fun i : Nat => .int .i64 (i : Int))
  obf : wr.ownsRow (w.heap.size + 1 + 1 + 1 + 1 + n + 1 + 1) 27 1 vb bf.length (bf.map fun x => .float .f64 x)

section
variable {w wr W : World} {n : Nat} {K : Nat → Int} {runs : Int} {lgf : Nat → Bool} {cu : Nat → Nat} {ix bf : List Nat} {kp : Nat → Int} {cm : Nat → Nat} {es : List (Nat × Nat)} {vi vb vc : Value}

/-- Where the fixed blocks stand. -/
theorem St.frame (h : St w wr n K runs lgf cu ix bf kp cm es vi vb vc) {ix' bf' : List Nat} {vi' vb' : Value} (h1 : W.os = wr.os) (h2 : W.tape = wr.tape) (h3 : W.output = wr.output) (h4 : wr.heap.size ≤ W.heap.size)
    (hb : ∀ k, k < w.heap.size + 1 + 1 + 1 + 1 + n + 1 + 1 → W.heap[k]? = wr.heap[k]?)
    (hc : W.ownsRow (w.heap.size + 1 + 1 + 1 + 1 + n + 1 + 1) 47 3 vc es.length (flat (w.heap.size + 1 + 1 + 1 + 1) es))
    (hi : W.ownsRow (w.heap.size + 1 + 1 + 1 + 1 + n + 1 + 1) 3 1 vi' ix'.length (ix'.map fun i : Nat => .int .i64 (i : Int)))
    (hf : W.ownsRow (w.heap.size + 1 + 1 + 1 + 1 + n + 1 + 1) 27 1 vb' bf'.length (bf'.map fun x => .float .f64 x)) : St w W n K runs lgf cu ix' bf' kp cm es vi' vb' vc :=
  ⟨h.below.trans ⟨h1, h2, h3, h4, fun k hk => hb k (by omega)⟩, Nat.le_trans h.size h4, h.ptrs.of_block (hb _ (by omega)), h.orig.of_block (hb _ (by omega)), h.lgd.of_block (hb _ (by omega)), h.cur.of_block (hb _ (by omega)),
    fun i hi => by rw [hb _ (by omega)]; exact h.cels i hi, by rw [hb _ (by omega)]; exact h.stk, by rw [hb _ (by omega)]; exact h.mac, hc, hi, hf⟩

theorem St.alloc (h : St w wr n K runs lgf cu ix bf kp cm es vi vb vc) (o : Obj) : St w (wr.alloc o) n K runs lgf cu ix bf kp cm es vi vb vc :=
  h.frame rfl rfl rfl (by simp) (fun k hk => Below.heap_alloc _ _ _ (by have := h.size; omega)) (own_old h.chg fun k hk => Below.heap_alloc _ _ _ hk) (own_old h.oix fun k hk => Below.heap_alloc _ _ _ hk) (own_old h.obf fun k hk => Below.heap_alloc _ _ _ hk)

theorem St.drewN (h : St w wr n K runs lgf cu ix bf kp cm es vi vb vc) (q : Nat) : St w (wr.drewN q) n K runs lgf cu ix bf kp cm es vi vb vc :=
  h.frame rfl rfl rfl (Nat.le_refl _) (fun _ _ => rfl) (own_old h.chg fun _ _ => rfl) (own_old h.oix fun _ _ => rfl) (own_old h.obf fun _ _ => rfl)

/-- 'expIdx = append(expIdx, i)'. -/
theorem St.idx (h : St w wr n K runs lgf cu ix bf kp cm es vi vb vc) {N : Obj} {i : Nat} {vi' : Value} (hg : (wr.alloc N).grownBy W vi.ownBlock)
    (ho : W.ownsRow (w.heap.size + 1 + 1 + 1 + 1 + n + 1 + 1) 3 1 vi' (ix.length + 1) ((ix.map fun i : Nat => .int .i64 (i : Int)) ++ [.int .i64 (i : Int)])) : St w W n K runs lgf cu (ix ++ [i]) bf kp cm es vi' vb vc := by
  have hs := h.size
  have hother : ∀ (t : TypeId), t ≠ 3 → ∀ (k : Nat) (c : Array Value), wr.heap[k]? = some (.cells c t (0, 0)) → W.heap[k]? = wr.heap[k]? := fun t ht k c hk => by
    have hk' : k < wr.heap.size := (Array.getElem?_eq_some_iff.1 hk).1
    rw [hg.block k (by simp; omega) (fun e => by
      obtain ⟨c', hc'⟩ := own_row h.oix e.symm
      rw [hc'] at hk
      simp at hk
      exact ht hk.2.symm), Below.heap_alloc _ _ _ hk']
  refine h.frame hg.os hg.tape hg.output (Nat.le_trans (by simp) hg.size) (fun k hk => ?_) (own_other h.chg (hother 47 (by decide))) (by simpa using ho) (own_other h.obf (hother 27 (by decide)))
  rw [hg.block k (by simp; omega) (fun e => by have := h.oix.lt _ e.symm; omega), Below.heap_alloc _ _ _ (by omega)]

/-- 'expBefore = append(expBefore, x)'. -/
theorem St.bef (h : St w wr n K runs lgf cu ix bf kp cm es vi vb vc) {N : Obj} {x : Nat} {vb' : Value} (hg : (wr.alloc N).grownBy W vb.ownBlock)
    (ho : W.ownsRow (w.heap.size + 1 + 1 + 1 + 1 + n + 1 + 1) 27 1 vb' (bf.length + 1) ((bf.map fun x => .float .f64 x) ++ [.float .f64 x])) : St w W n K runs lgf cu ix (bf ++ [x]) kp cm es vi vb' vc := by
  have hs := h.size
  have hother : ∀ (t : TypeId), t ≠ 27 → ∀ (k : Nat) (c : Array Value), wr.heap[k]? = some (.cells c t (0, 0)) → W.heap[k]? = wr.heap[k]? := fun t ht k c hk => by
    have hk' : k < wr.heap.size := (Array.getElem?_eq_some_iff.1 hk).1
    rw [hg.block k (by simp; omega) (fun e => by
      obtain ⟨c', hc'⟩ := own_row h.obf e.symm
      rw [hc'] at hk
      simp at hk
      exact ht hk.2.symm), Below.heap_alloc _ _ _ hk']
  refine h.frame hg.os hg.tape hg.output (Nat.le_trans (by simp) hg.size) (fun k hk => ?_) (own_other h.chg (hother 47 (by decide))) (own_other h.oix (hother 3 (by decide))) (by simpa using ho)
  rw [hg.block k (by simp; omega) (fun e => by have := h.obf.lt _ e.symm; omega), Below.heap_alloc _ _ _ (by omega)]

/-- A store into one of the fixed blocks leaves what is owned. -/
theorem own_fixed {base : Nat} {e : TypeId} {size : Nat} {v : Value} {m : Nat} {xs : List Value} (h : wr.ownsRow base e size v m xs) {b o : Nat} (hb : b < base) (u : Value) : (wr.setCell ⟨b, o, none⟩ u).ownsRow base e size v m xs :=
  ownsRow_setCell_below h hb u

/-- 'logged[i] = true'. -/
theorem St.setLgd (h : St w wr n K runs lgf cu ix bf kp cm es vi vb vc) (i : Nat) (u : Bool) : St w (wr.setCell ⟨w.heap.size + 1 + 1, i, none⟩ (.bool u)) n K runs (fun j => if j = i then u else lgf j) cu ix bf kp cm es vi vb vc := by
  have ho : ∀ k, k ≠ w.heap.size + 1 + 1 → (wr.setCell ⟨w.heap.size + 1 + 1, i, none⟩ (.bool u)).heap[k]? = wr.heap[k]? := fun k hk => Below.heap_setCell _ _ _ _ hk
  exact ⟨h.below.setCell (by show w.heap.size ≤ w.heap.size + 1 + 1; omega) _, by simpa [World.setCell] using h.size, h.ptrs.of_block (ho _ (by omega)), h.orig.of_block (ho _ (by omega)), (h.lgd.set i _).congr (fun j _ => by split <;> rfl), h.cur.of_block (ho _ (by omega)),
    fun i hi => by rw [ho _ (by omega)]; exact h.cels i hi, by rw [ho _ (by omega)]; exact h.stk, by rw [ho _ (by omega)]; exact h.mac, own_fixed h.chg (by omega) _, own_fixed h.oix (by omega) _, own_fixed h.obf (by omega) _⟩

/-- 'cur[i] = x'. -/
theorem St.setCur (h : St w wr n K runs lgf cu ix bf kp cm es vi vb vc) (i x : Nat) : St w (wr.setCell ⟨w.heap.size + 1 + 1 + 1, i, none⟩ (.float .f64 x)) n K runs lgf (fun j => if j = i then x else cu j) ix bf kp cm es vi vb vc := by
  have ho : ∀ k, k ≠ w.heap.size + 1 + 1 + 1 → (wr.setCell ⟨w.heap.size + 1 + 1 + 1, i, none⟩ (.float .f64 x)).heap[k]? = wr.heap[k]? := fun k hk => Below.heap_setCell _ _ _ _ hk
  exact ⟨h.below.setCell (by show w.heap.size ≤ w.heap.size + 1 + 1 + 1; omega) _, by simpa [World.setCell] using h.size, h.ptrs.of_block (ho _ (by omega)), h.orig.of_block (ho _ (by omega)), h.lgd.of_block (ho _ (by omega)), (h.cur.set i _).congr (fun j _ => by split <;> rfl),
    fun i hi => by rw [ho _ (by omega)]; exact h.cels i hi, by rw [ho _ (by omega)]; exact h.stk, by rw [ho _ (by omega)]; exact h.mac, own_fixed h.chg (by omega) _, own_fixed h.oix (by omega) _, own_fixed h.obf (by omega) _⟩

/-- 'm.set(cells[i], v)' where the run has kept the cell. -/
theorem St.kept (h : St w wr n K runs lgf cu ix bf kp cm es vi vb vc) {i v : Nat} (hi : i < n) (hk : kp i = runs) (hS : SetKept wr W (w.heap.size + 1 + 1 + 1 + 1 + i) i v runs) : St w W n K runs lgf cu ix bf kp (fun j => if j = i then v else cm j) es vi vb vc := by
  have hs := h.size
  have ho : ∀ k, k < wr.heap.size → k ≠ w.heap.size + 1 + 1 + 1 + 1 + i → W.heap[k]? = wr.heap[k]? := fun k h1 h2 => hS.rest k h1 h2
  have how : ∀ (t : TypeId), t ≠ 32 → ∀ (k : Nat) (c : Array Value), wr.heap[k]? = some (.cells c t (0, 0)) → W.heap[k]? = wr.heap[k]? := fun t ht k c hk => by
    refine ho k (Array.getElem?_eq_some_iff.1 hk).1 fun e => ?_
    subst e
    rw [h.cels i hi] at hk
    simp [cellB] at hk
    exact ht hk.2.symm
  refine ⟨h.below.trans ⟨hS.os, hS.tape, hS.output, hS.size, fun k hk => ho k (by omega) (by omega)⟩, Nat.le_trans h.size hS.size, h.ptrs.of_block (ho _ (by omega) (by omega)), h.orig.of_block (ho _ (by omega) (by omega)), h.lgd.of_block (ho _ (by omega) (by omega)), h.cur.of_block (ho _ (by omega) (by omega)),
    fun j hj => ?_, by rw [ho _ (by omega) (by omega)]; exact h.stk, by rw [ho _ (by omega) (by omega)]; exact h.mac, own_other h.chg (how 47 (by decide)), own_other h.oix (how 3 (by decide)), own_other h.obf (how 27 (by decide))⟩
  by_cases e : j = i
  · subst e
    rw [if_pos rfl, hk]
    exact hS.cel
  · rw [if_neg e, ho _ (by omega) (by omega)]
    exact h.cels j hj

/-- .. where it has not: the cell is logged. -/
theorem St.logged (h : St w wr n K runs lgf cu ix bf kp cm es vi vb vc) {i v : Nat} {vc' : Value} (hi : i < n)
    (hS : SetLogged wr W (w.heap.size + 1 + 1 + 1 + 1 + i) (w.heap.size + 1 + 1 + 1 + 1 + n + 1) (w.heap.size + 1 + 1 + 1 + 1 + n) i v (cm i) runs vc (w.heap.size + 1 + 1 + 1 + 1 + n + 1 + 1) es.length (flat (w.heap.size + 1 + 1 + 1 + 1) es) vc') :
    St w W n K runs lgf cu ix bf (fun j => if j = i then runs else kp j) (fun j => if j = i then v else cm j) (es ++ [(i, cm i)]) vi vb vc' := by
  have hs := h.size
  have ho : ∀ k, k < w.heap.size + 1 + 1 + 1 + 1 + n + 1 + 1 → k ≠ w.heap.size + 1 + 1 + 1 + 1 + i → k ≠ w.heap.size + 1 + 1 + 1 + 1 + n + 1 → W.heap[k]? = wr.heap[k]? := fun k h1 h2 h3 =>
    hS.rest k (by omega) h2 h3 fun e => by have := h.chg.lt _ e.symm; omega
  have how : ∀ (t : TypeId), t ≠ 32 → t ≠ 42 → t ≠ 47 → ∀ (k : Nat) (c : Array Value), wr.heap[k]? = some (.cells c t (0, 0)) → W.heap[k]? = wr.heap[k]? := fun t ht1 ht2 ht3 k c hk => by
    refine hS.rest k (Array.getElem?_eq_some_iff.1 hk).1 (fun e => ?_) (fun e => ?_) (fun e => ?_)
    · subst e; rw [h.cels i hi] at hk; simp [cellB] at hk; exact ht1 hk.2.symm
    · subst e; rw [h.mac] at hk; simp [machB] at hk; exact ht2 hk.2.symm
    · obtain ⟨c', hc'⟩ := own_row h.chg e.symm
      rw [hc'] at hk; simp at hk; exact ht3 hk.2.symm
  refine ⟨h.below.trans ⟨hS.os, hS.tape, hS.output, hS.size, fun k hk => ho k (by omega) (by omega) (by omega)⟩, Nat.le_trans h.size hS.size, h.ptrs.of_block (ho _ (by omega) (by omega) (by omega)), h.orig.of_block (ho _ (by omega) (by omega) (by omega)),
    h.lgd.of_block (ho _ (by omega) (by omega) (by omega)), h.cur.of_block (ho _ (by omega) (by omega) (by omega)), fun j hj => ?_, by rw [ho _ (by omega) (by omega) (by omega)]; exact h.stk, hS.mac, ?_, own_other h.oix (how 3 (by decide) (by decide) (by decide)), own_other h.obf (how 27 (by decide) (by decide) (by decide))⟩
  · by_cases e : j = i
    · subst e
      rw [if_pos rfl, if_pos rfl]
      exact hS.cel
    · rw [if_neg e, if_neg e, ho _ (by omega) (by omega) (by omega)]
      exact h.cels j hj
  · rw [flat_snoc, List.length_append]
    exact hS.chg

end

/-- Is cell i kept by the run, when the log is es? -/
def lgOf (K : Nat → Int) (runs : Int) (es : List (Nat × Nat)) : Nat → Bool := fun i => K i == runs || es.any fun e => e.1 == i
def kpOf (K : Nat → Int) (runs : Int) (es : List (Nat × Nat)) : Nat → Int := fun i => if lgOf K runs es i then runs else K i

/-- The plain invariant: what is logged is a cell made before the run, with its first value; a cell made before the run that is not logged still holds its first value. -/
structure Tie (n : Nat) (F : Nat → Nat) (K : Nat → Int) (runs : Int) (es : List (Nat × Nat)) (cm : Nat → Nat) : Prop where
  log : ∀ e ∈ es, e.1 < n ∧ K e.1 ≠ runs ∧ e.2 = F e.1
  rest : ∀ i, i < n → (∀ e ∈ es, e.1 ≠ i) → K i ≠ runs → cm i = F i

theorem lgOf_nil (K : Nat → Int) (runs : Int) : lgOf K runs [] = fun i => K i == runs := by funext i; simp [lgOf]
theorem kpOf_nil (K : Nat → Int) (runs : Int) : kpOf K runs [] = K := by
  funext i
  simp only [kpOf, lgOf_nil]
  split
  · rename_i h; exact (eq_of_beq h).symm
  · rfl
theorem lgOf_snoc (K : Nat → Int) (runs : Int) (es : List (Nat × Nat)) (i x : Nat) : lgOf K runs (es ++ [(i, x)]) = fun j => if j = i then true else lgOf K runs es j := by
  funext j
  by_cases h : j = i
  · subst h; simp [lgOf]
  · have h' : (i == j) = false := by simp; omega
    simp [lgOf, h, h']
theorem kpOf_snoc (K : Nat → Int) (runs : Int) (es : List (Nat × Nat)) (i x : Nat) : kpOf K runs (es ++ [(i, x)]) = fun j => if j = i then runs else kpOf K runs es j := by
  funext j
  simp only [kpOf, lgOf_snoc]
  by_cases h : j = i <;> simp [h]
theorem lgOf_true {K : Nat → Int} {runs : Int} {es : List (Nat × Nat)} {i : Nat} (h : lgOf K runs es i = true) (h1 : ∀ e ∈ es, e.1 ≠ i) : K i = runs := by
  simp only [lgOf, Bool.or_eq_true, beq_iff_eq, List.any_eq_true] at h
  rcases h with h | ⟨e, he, h⟩
  · exact h
  · exact absurd h (h1 e he)
theorem lgOf_false {K : Nat → Int} {runs : Int} {es : List (Nat × Nat)} {i : Nat} (h : lgOf K runs es i = false) : K i ≠ runs ∧ ∀ e ∈ es, e.1 ≠ i := by
  simp only [lgOf, Bool.or_eq_false_iff, beq_eq_false_iff_ne, List.any_eq_false, beq_iff_eq] at h
  exact h
theorem kpOf_true {K : Nat → Int} {runs : Int} {es : List (Nat × Nat)} {i : Nat} (h : lgOf K runs es i = true) : kpOf K runs es i = runs := by simp [kpOf, h]
theorem kpOf_false {K : Nat → Int} {runs : Int} {es : List (Nat × Nat)} {i : Nat} (h : lgOf K runs es i = false) : kpOf K runs es i = K i := by simp [kpOf, h]

theorem Tie.start (n : Nat) (F : Nat → Nat) (K : Nat → Int) (runs : Int) : Tie n F K runs [] F := ⟨fun _ he => (List.not_mem_nil he).elim, fun _ _ _ _ => rfl⟩
theorem Tie.kept {n : Nat} {F : Nat → Nat} {K : Nat → Int} {runs : Int} {es : List (Nat × Nat)} {cm : Nat → Nat} (h : Tie n F K runs es cm) {i : Nat} (hl : lgOf K runs es i = true) (v : Nat) : Tie n F K runs es (fun j => if j = i then v else cm j) :=
  ⟨h.log, fun j hj h1 h2 => by
    by_cases e : j = i
    · subst e; exact absurd (lgOf_true hl h1) h2
    · rw [if_neg e]; exact h.rest j hj h1 h2⟩
theorem Tie.logged {n : Nat} {F : Nat → Nat} {K : Nat → Int} {runs : Int} {es : List (Nat × Nat)} {cm : Nat → Nat} (h : Tie n F K runs es cm) {i : Nat} (hi : i < n) (hl : lgOf K runs es i = false) (v : Nat) : Tie n F K runs (es ++ [(i, cm i)]) (fun j => if j = i then v else cm j) := by
  obtain ⟨h1, h2⟩ := lgOf_false hl
  refine ⟨fun e he => ?_, fun j hj h3 h4 => ?_⟩
  · rcases List.mem_append.1 he with he | he
    · exact h.log e he
    · simp at he; subst he
      exact ⟨hi, h1, h.rest i hi h2 h1⟩
  · have hji : j ≠ i := fun e => h3 (i, cm i) (by simp) e.symm
    rw [if_neg hji]
    exact h.rest j hj (fun e he => h3 e (List.mem_append.2 (.inl he))) h4

/-- The undone value is the one that the law wants. -/
theorem und_at (es : List (Nat × Nat)) (cm F : Nat → Nat) (i : Nat) (h : ∀ e ∈ es, e.2 = F e.1) : und es cm i = if es.any (fun e => e.1 == i) then F i else cm i := by
  induction es generalizing cm with
  | nil => simp [und]
  | cons e es ih =>
    have he := h e (by simp)
    have hu : und (e :: es) cm = und es (fun j => if j = e.1 then e.2 else cm j) := rfl
    rw [hu, ih _ (fun e' he' => h e' (by simp [he']))]
    by_cases hi : i = e.1
    · subst hi; simp [he]
    · have h' : (e.1 == i) = false := by simp; omega
      rw [List.any_cons, h', Bool.false_or, if_neg hi]
theorem Tie.want {n : Nat} {F : Nat → Nat} {K : Nat → Int} {runs : Int} {es : List (Nat × Nat)} {cm : Nat → Nat} (h : Tie n F K runs es cm) {i : Nat} (hi : i < n) : und es cm i = if K i = runs then cm i else F i := by
  rw [und_at es cm F i (fun e he => (h.log e he).2.2)]
  by_cases ha : es.any (fun e => e.1 == i) = true
  · rw [if_pos ha]
    obtain ⟨e, he, hei⟩ := List.any_eq_true.1 ha
    have : e.1 = i := by simpa using hei
    subst this
    rw [if_neg (h.log e he).2.1]
  · rw [if_neg ha]
    have h1 : ∀ e ∈ es, e.1 ≠ i := fun e he hei => ha (List.any_eq_true.2 ⟨e, he, by simpa using hei⟩)
    by_cases hk : K i = runs
    · rw [if_pos hk]
    · rw [if_neg hk, h.rest i hi h1 hk]

theorem own_slice {w : World} {base : Nat} {e : TypeId} {size : Nat} {v : Value} {n : Nat} {xs : List Value} (h : w.ownsRow base e size v n xs) : ∃ ao c, v = .slice ao n c := by
  rcases h.2 with ⟨rfl, rfl⟩ | ⟨g, cap, cur, rfl, _⟩
  · exact ⟨_, _, rfl⟩
  · exact ⟨_, _, rfl⟩

theorem st_start {w wr : World} {n : Nat} {F : Nat → Nat} {K : Nat → Int} {runs : Int} (h : Mk w wr n F K runs n) :
    St w ((((wr.alloc (.cells #[.float .f64 0, .nilIface] 30)).alloc (machB (w.heap.size + 1 + 1 + 1 + 1 + n) runs (.slice none 0 0))).alloc (.cells #[] 3)).alloc (.cells #[] 27)) n K runs (lgOf K runs []) F [] [] (kpOf K runs []) F []
      (.slice (some ⟨w.heap.size + 1 + 1 + 1 + 1 + n + 1 + 1, 0, none⟩) 0 0) (.slice (some ⟨w.heap.size + 1 + 1 + 1 + 1 + n + 1 + 1 + 1, 0, none⟩) 0 0) (.slice none 0 0) := by
  have hz := h.size
  rw [lgOf_nil, kpOf_nil]
  have o3 := World.ownsRow_lit (base := w.heap.size + 1 + 1 + 1 + 1 + n + 1 + 1) (e := 3) (size := 1) ((wr.alloc (.cells #[.float .f64 0, .nilIface] 30)).alloc (machB (w.heap.size + 1 + 1 + 1 + 1 + n) runs (.slice none 0 0))) #[] 0 (by simp; omega) (Nat.zero_le _) rfl
  have o27 := World.ownsRow_lit (base := w.heap.size + 1 + 1 + 1 + 1 + n + 1 + 1) (e := 27) (size := 1) (((wr.alloc (.cells #[.float .f64 0, .nilIface] 30)).alloc (machB (w.heap.size + 1 + 1 + 1 + 1 + n) runs (.slice none 0 0))).alloc (.cells #[] 3)) #[] 0 (by simp; omega) (Nat.zero_le _) rfl
  have e1 := heap_alloc_new wr (.cells #[.float .f64 0, .nilIface] 30)
  have e2 := heap_alloc_new (wr.alloc (.cells #[.float .f64 0, .nilIface] 30)) (machB (w.heap.size + 1 + 1 + 1 + 1 + n) runs (.slice none 0 0))
  simp only [World.size_alloc, hz] at o3 o27 e1 e2
  refine ⟨(((h.below.alloc (by omega) _).alloc (by simp; omega) _).alloc (by simp; omega) _).alloc (by simp; omega) _, by simp; omega, ((((h.ptrs.alloc _).alloc _).alloc _).alloc _).congr (fun i hi => by simp [hi]), ((((h.orig.alloc _).alloc _).alloc _).alloc _).congr (fun i hi => by simp [hi]),
    ((((h.lgd.alloc _).alloc _).alloc _).alloc _).congr (fun i hi => by simp [hi]), ((((h.cur.alloc _).alloc _).alloc _).alloc _).congr (fun i hi => by simp [hi]), fun i hi => ?_, ?_, ?_, World.ownsRow_nil _ _ _ _, o3.alloc _, o27⟩
  · rw [Below.heap_alloc _ _ _ (by simp; omega), Below.heap_alloc _ _ _ (by simp; omega), Below.heap_alloc _ _ _ (by simp; omega), Below.heap_alloc _ _ _ (by omega)]
    exact h.cels i hi
  · rw [Below.heap_alloc _ _ _ (by simp; omega), Below.heap_alloc _ _ _ (by simp; omega), Below.heap_alloc _ _ _ (by simp; omega)]
    exact e1
  · rw [Below.heap_alloc _ _ _ (by simp; omega), Below.heap_alloc _ _ _ (by simp; omega)]
    exact e2

end Go.Proofs.Ybulkaqq
