import Derived.Test.YbulkaqqClosedState
import Derived.Deep.LoopGhost
import Derived.Deep.DeepCutAuto
import Derived.Deep.Light
import Derived.Deep.RegionHeld3
import Derived.BigQuiet
import Derived.LaidEqlPtr
namespace Go.Proofs.Ybulkaqq
open Go.RowKit
attribute [local go_sem] store_float

theorem Yba.info28 : (Yba.prog.info? 28).map (fun i => (i.zero, i.size, i.bytes)) = some (some (.pointer none), 1, 8) := by kernel_rfl
theorem Yba.info3 : (Yba.prog.info? 3).map (fun i => (i.zero, i.size, i.bytes)) = some (some (.int .i64 0), 1, 8) := by kernel_rfl
theorem Yba.info4 : (Yba.prog.info? 4).map (fun i => (i.zero, i.size, i.bytes)) = some (some (.bool false), 1, 1) := by kernel_rfl
theorem Yba.info27 : (Yba.prog.info? 27).map (fun i => (i.zero, i.size, i.bytes)) = some (some (.float .f64 0), 1, 8) := by kernel_rfl

/-- The kept of cell i, as the law lays it. -/
def keptOf (L : Nat) (kz : Nat → Int) (runs : Int) : Nat → Int := fun i => if i < L then kz i else runs

theorem old_block {w wr : World} {k : Nat} (hz : wr.heap.size = w.heap.size + 1 + 1 + 1 + 1 + k) (o : Obj) (u1 u2 u3 : Value) :
    ((((wr.setCell ⟨w.heap.size + 1, k, none⟩ u1).setCell ⟨w.heap.size + 1 + 1, k, none⟩ u2).setCell ⟨w.heap.size + 1 + 1 + 1, k, none⟩ u3).alloc o).heap[w.heap.size]? = wr.heap[w.heap.size]? := by
  rw [Below.heap_alloc _ _ _ (by simp [World.setCell]; omega), Below.heap_setCell _ _ _ _ (by show _ ≠ w.heap.size + 1 + 1 + 1; omega), Below.heap_setCell _ _ _ _ (by show _ ≠ w.heap.size + 1 + 1; omega), Below.heap_setCell _ _ _ _ (by show _ ≠ w.heap.size + 1; omega)]

theorem make_stack (w : World) : (Instr.makeSlice 34 (.int .i64 1) (.int .i64 1)).run Yba.prog w = .ok (.slice (some ⟨w.heap.size, 0, none⟩) 1 1) (w.alloc (.cells #[.float .f64 0, .nilIface] 30)) := by kernel_rfl

/-- The cells at index i that a round reads or writes. -/
structure At (w wr : World) (i : Nat) (l : Bool) (c : Nat) : Prop where
  ptr : wr.cell? ⟨w.heap.size, i, none⟩ = some (.pointer (some ⟨w.heap.size + 1 + 1 + 1 + 1 + i, 0, none⟩))
  lgd : wr.cell? ⟨w.heap.size + 1 + 1, i, none⟩ = some (.bool l)
  lgf : wr.frozen? ⟨w.heap.size + 1 + 1, i, none⟩ = false
  cur : wr.cell? ⟨w.heap.size + 1 + 1 + 1, i, none⟩ = some (.float .f64 c)
  cuf : wr.frozen? ⟨w.heap.size + 1 + 1 + 1, i, none⟩ = false

theorem St.at {w wr : World} {n : Nat} {K : Nat → Int} {runs : Int} {lgf : Nat → Bool} {cu : Nat → Nat} {ix bf : List Nat} {kp : Nat → Int} {cm : Nat → Nat} {es : List (Nat × Nat)} {vi vb vc : Value} (h : St w wr n K runs lgf cu ix bf kp cm es vi vb vc)
    {i : Nat} (hi : i < n) : At w wr i (lgf i) (cu i) := ⟨h.ptrs.cell hi, h.lgd.cell hi, h.lgd.frozen i, h.cur.cell hi, h.cur.frozen i⟩

/-- The call of 'set' where the run has kept the cell: what is known of the state behind it. -/
theorem set_kept_st {w wr : World} {n : Nat} {K : Nat → Int} {runs : Int} {cu : Nat → Nat} {ix bf : List Nat} {cm : Nat → Nat} {es : List (Nat × Nat)} {vi vb vc : Value} {a b : Value}
    (h : St w (wr.alloc (.cells #[a, b] 44)) n K runs (lgOf K runs es) cu ix bf (kpOf K runs es) cm es vi vb vc) {i : Nat} (hi : i < n) (hl : lgOf K runs es i = true) (v q : Nat) :
    Calls Yba.prog 5 #[.pointer (some ⟨w.heap.size + 1 + 1 + 1 + 1 + n + 1, 0, none⟩), .pointer (some ⟨w.heap.size + 1 + 1 + 1 + 1 + i, 0, none⟩), .agg #[.float .f64 v, .nilIface]] ((wr.alloc (.cells #[a, b] 44)).drewN q) fun e w' => e = .returned (.tuple #[]) ∧
      St w w' n K runs (lgOf K runs es) cu ix bf (kpOf K runs es) (fun j => if j = i then v else cm j) es vi vb vc ∧ w'.cell? ⟨wr.heap.size, 1, none⟩ = some b ∧ At w w' i true (cu i) := by
  have hC := h.cels i hi
  rw [kpOf_true hl] at hC
  have hnew := heap_alloc_new wr (.cells #[a, b] 44)
  have hs : w.heap.size + 1 + 1 + 1 + 1 + i ≠ wr.heap.size := fun e => by rw [e, hnew] at hC; simp [cellB] at hC
  refine (set_kept (w.heap.size + 1 + 1 + 1 + 1 + n + 1) (w.heap.size + 1 + 1 + 1 + 1 + i) i (cm i) v runs _ vc ((wr.alloc (.cells #[a, b] 44)).drewN q) hC h.mac).mono ?_
  rintro e w' ⟨rfl, hK⟩
  have hS := (h.drewN q).kept hi (kpOf_true hl) hK
  refine ⟨rfl, hS, ?_, ?_⟩
  · have hb := hK.rest wr.heap.size (by simp) hs.symm
    have hb' : w'.heap[wr.heap.size]? = some (.cells #[a, b] 44) := hb.trans hnew
    simp [World.cell?, hb']
  · have := hS.at hi
    rw [hl] at this
    exact this

/-- .. where it has not. -/
theorem set_logged_st {w wr : World} {n : Nat} {K : Nat → Int} {runs : Int} {cu : Nat → Nat} {ix bf : List Nat} {cm : Nat → Nat} {es : List (Nat × Nat)} {vi vb vc : Value} {a b : Value}
    (h : St w (wr.alloc (.cells #[a, b] 44)) n K runs (lgOf K runs es) cu ix bf (kpOf K runs es) cm es vi vb vc) {i : Nat} (hi : i < n) (hl : lgOf K runs es i = false) (hes : es.length ≤ 2000) (v q : Nat) :
    Calls Yba.prog 5 #[.pointer (some ⟨w.heap.size + 1 + 1 + 1 + 1 + n + 1, 0, none⟩), .pointer (some ⟨w.heap.size + 1 + 1 + 1 + 1 + i, 0, none⟩), .agg #[.float .f64 v, .nilIface]] ((wr.alloc (.cells #[a, b] 44)).drewN q) fun e w' => e = .returned (.tuple #[]) ∧
      ∃ vc', St w w' n K runs (lgOf K runs es) cu ix bf (kpOf K runs (es ++ [(i, cm i)])) (fun j => if j = i then v else cm j) (es ++ [(i, cm i)]) vi vb vc' ∧ w'.heap[wr.heap.size]? = some (.cells #[a, b] 44) ∧ At w w' i false (cu i) := by
  have hC := h.cels i hi
  rw [kpOf_false hl] at hC
  have hnew := heap_alloc_new wr (.cells #[a, b] 44)
  have hs : w.heap.size + 1 + 1 + 1 + 1 + i ≠ wr.heap.size := fun e => by rw [e, hnew] at hC; simp [cellB] at hC
  have hm : w.heap.size + 1 + 1 + 1 + 1 + n + 1 ≠ wr.heap.size := fun e => by have hM := h.mac; rw [e, hnew] at hM; simp [machB] at hM
  obtain ⟨ao, c, rfl⟩ := own_slice h.chg
  refine (set_logged (w.heap.size + 1 + 1 + 1 + 1 + n + 1) (w.heap.size + 1 + 1 + 1 + 1 + i) i (cm i) v (K i) runs _ _ (w.heap.size + 1 + 1 + 1 + 1 + n + 1 + 1) es.length (flat (w.heap.size + 1 + 1 + 1 + 1) es) ((wr.alloc (.cells #[a, b] 44)).drewN q)
    (by simpa using (lgOf_false hl).1) (by omega) hC h.mac (h.drewN q).chg h.size hes ⟨_, _, _, rfl⟩).mono ?_
  rintro e w' ⟨rfl, vc', hK⟩
  have hS := (h.drewN q).logged hi hK
  rw [← kpOf_snoc K runs es i (cm i)] at hS
  refine ⟨rfl, vc', hS, ?_, ?_⟩
  · have hb := hK.rest wr.heap.size (by simp) hs.symm hm.symm (fun e => by
      obtain ⟨c', hc'⟩ := own_row h.chg e.symm
      rw [hnew] at hc'
      simp at hc')
    exact hb.trans hnew
  · have := hS.at hi
    rw [hl] at this
    exact this

theorem one_cell (W : World) (u : Value) (t : TypeId) : ∀ j v, [u][j]? = some v → (W.alloc (.cells #[u] t)).cell? ((⟨W.heap.size, 0, none⟩ : Addr).add j) = some v := by
  intro j v hj
  match j, hj with
  | 0, hj => simp at hj; subst hj; simp [Addr.add]
  | j + 1, hj => simp at hj

section
variable {w w1 : World} {n : Nat} {K : Nat → Int} {runs : Int} {lgf : Nat → Bool} {cu : Nat → Nat} {ix bf : List Nat} {kp : Nat → Int} {cm : Nat → Nat} {es : List (Nat × Nat)} {vi vb vc : Value}

/-- 'expIdx = append(expIdx, i)', as a law of the walk. -/
theorem wpList_idx {ops : Array Oper} {rest : List Oper} {o : Oper} {a : Act} {Q : Exit → Act → World → Prop} (hgd : o.guard = none) (ho : o.op = .call { callee := .builtin .append, args := #[.tmp 116, .tmp 118], argTypes := #[22, 22] })
    (h : Hid (St w w1 n K runs lgf cu ix bf kp cm es vi vb vc)) {i : Nat} (hs : a.eval (.tmp 116) = vi) (hx : a.eval (.tmp 118) = .slice (some ⟨w1.heap.size, 0, none⟩) 1 1) (hl : ix.length ≤ 2000) {sz : Nat} {x y : Value} (hst : w1.heap[sz]? = some (.cells #[x, y] 44)) (hi : i < n)
    (hK : ∀ vi' w2, Hid (St w w2 n K runs lgf cu (ix ++ [i]) bf kp cm es vi' vb vc) → w2.heap[sz]? = some (.cells #[x, y] 44) → At w w2 i (lgf i) (cu i) → wpList Yba.prog ops Q rest (a.put o.dst vi') w2) :
    wpList Yba.prog ops Q (o :: rest) a (w1.alloc (.cells #[.int .i64 (i : Int)] 3)) := by
  obtain ⟨i0, hi0, hz0, hz1, hz2⟩ := info_parts Yba.info3
  have hsz : sz < w1.heap.size := (Array.getElem?_eq_some_iff.1 hst).1
  refine wpList_append_own _ hgd (.tmp 116) (.tmp 118) 22 ho (w.heap.size + 1 + 1 + 1 + 1 + n + 1 + 1) 3 i0 (.int .i64 0) 1 8 Yba.underlying22 hi0 hz0 hz1 hz2 rfl (by decide) vi _ _ hs (h.out.oix.alloc _) ⟨w1.heap.size, 0, none⟩ 1 1 [.int .i64 (i : Int)] hx rfl (one_cell _ _ _) ?_ ?_ ?_ ?_ ?_
  · intro u hu; simp at hu; subst hu; rfl
  · simp only [maxLen]; omega
  · omega
  · have := h.out.size; simp; omega
  · intro v' w2 ho2 hg2 _
    have hS := h.out.idx hg2 ho2
    refine hK v' w2 hS ?_ (hS.at hi)
    rw [hg2.block sz (by simp; omega) (fun e => by
      obtain ⟨c', hc'⟩ := own_row h.out.oix e.symm
      rw [hst] at hc'
      simp at hc'), Below.heap_alloc _ _ _ hsz]
    exact hst

/-- 'expBefore = append(expBefore, x)', as a law of the walk. -/
theorem wpList_bef {ops : Array Oper} {rest : List Oper} {o : Oper} {a : Act} {Q : Exit → Act → World → Prop} (hgd : o.guard = none) (ho : o.op = .call { callee := .builtin .append, args := #[.tmp 120, .tmp 125], argTypes := #[26, 26] })
    (h : Hid (St w w1 n K runs lgf cu ix bf kp cm es vi vb vc)) {i b : Nat} (hs : a.eval (.tmp 120) = vb) (hx : a.eval (.tmp 125) = .slice (some ⟨w1.heap.size, 0, none⟩) 1 1) (hl : bf.length ≤ 2000) {sz : Nat} {x y : Value} (hst : w1.heap[sz]? = some (.cells #[x, y] 44)) (hi : i < n)
    (hK : ∀ vb' w2, Hid (St w w2 n K runs lgf cu ix (bf ++ [b]) kp cm es vi vb' vc) → w2.heap[sz]? = some (.cells #[x, y] 44) → w2.cell? ⟨sz, 1, none⟩ = some y → At w w2 i (lgf i) (cu i) → wpList Yba.prog ops Q rest (a.put o.dst vb') w2) :
    wpList Yba.prog ops Q (o :: rest) a (w1.alloc (.cells #[.float .f64 b] 27)) := by
  obtain ⟨i0, hi0, hz0, hz1, hz2⟩ := info_parts Yba.info27
  have hsz : sz < w1.heap.size := (Array.getElem?_eq_some_iff.1 hst).1
  refine wpList_append_own _ hgd (.tmp 120) (.tmp 125) 26 ho (w.heap.size + 1 + 1 + 1 + 1 + n + 1 + 1) 27 i0 (.float .f64 0) 1 8 Yba.underlying26 hi0 hz0 hz1 hz2 rfl (by decide) vb _ _ hs (h.out.obf.alloc _) ⟨w1.heap.size, 0, none⟩ 1 1 [.float .f64 b] hx rfl (one_cell _ _ _) ?_ ?_ ?_ ?_ ?_
  · intro u hu; simp at hu; subst hu; rfl
  · simp only [maxLen]; omega
  · omega
  · have := h.out.size; simp; omega
  · intro v' w2 ho2 hg2 _
    have hS := h.out.bef hg2 ho2
    have hb : w2.heap[sz]? = some (.cells #[x, y] 44) := by
      rw [hg2.block sz (by simp; omega) (fun e => by
        obtain ⟨c', hc'⟩ := own_row h.out.obf e.symm
        rw [hst] at hc'
        simp at hc'), Below.heap_alloc _ _ _ hsz]
      exact hst
    exact hK v' w2 hS hb (by simp [World.cell?, hb]) (hS.at hi)
end

theorem st_round {w w3 : World} {n : Nat} {K : Nat → Int} {runs : Int} {cm : Nat → Nat} {es : List (Nat × Nat)} {vi vb vc : Value} {i v : Nat}
    (h : St w w3 n K runs (lgOf K runs es) cm (es.map (·.1) ++ [i]) (es.map (·.2) ++ [cm i]) (kpOf K runs (es ++ [(i, cm i)])) (fun j => if j = i then v else cm j) (es ++ [(i, cm i)]) vi vb vc) :
    St w ((w3.setCell ⟨w.heap.size + 1 + 1, i, none⟩ (.bool true)).setCell ⟨w.heap.size + 1 + 1 + 1, i, none⟩ (.float .f64 v)) n K runs (lgOf K runs (es ++ [(i, cm i)])) (fun j => if j = i then v else cm j) ((es ++ [(i, cm i)]).map (·.1)) ((es ++ [(i, cm i)]).map (·.2))
      (kpOf K runs (es ++ [(i, cm i)])) (fun j => if j = i then v else cm j) (es ++ [(i, cm i)]) vi vb vc := by
  have := (h.setLgd i true).setCur i v
  rw [lgOf_snoc, List.map_append, List.map_append]
  exact this

theorem own_some {w : World} {base : Nat} {e : TypeId} {size : Nat} {ao : Option Addr} {n c : Nat} {xs : List Value} (h : w.ownsRow base e size (.slice ao n c) n xs) (hn : 0 < n) : ∃ g, ao = some ⟨g, 0, none⟩ := by
  rcases h.2 with ⟨_, h0⟩ | ⟨g, cap, cu, hv, _⟩
  · omega
  · simp at hv
    exact ⟨g, hv.1⟩

section
variable {w wr : World} {n : Nat} {K : Nat → Int} {runs : Int} {lgf : Nat → Bool} {cu : Nat → Nat} {kp : Nat → Int} {cm : Nat → Nat} {es : List (Nat × Nat)} {ci cb cc gi gb gc : Nat}

/-- The cells that the law's look at entry j reads. -/
def Ent (w wr : World) (n : Nat) (es : List (Nat × Nat)) (cc gi gb gc j : Nat) (e : Nat × Nat) : Prop :=
  wr.cell? ⟨w.heap.size + 1 + 1 + 1 + 1 + n + 1, 10, none⟩ = some (.slice (some ⟨gc, 0, none⟩) es.length cc) ∧ wr.cell? ⟨gc, j * 3, none⟩ = some (.pointer (some ⟨w.heap.size + 1 + 1 + 1 + 1 + e.1, 0, none⟩)) ∧
  wr.cell? ⟨gc, j * 3 + 1, none⟩ = some (.float .f64 e.2) ∧ wr.cell? ⟨gc, j * 3 + 1 + 1, none⟩ = some .nilIface ∧ wr.cell? ⟨gi, j, none⟩ = some (.int .i64 (e.1 : Int)) ∧
  wr.cell? ⟨w.heap.size, e.1, none⟩ = some (.pointer (some ⟨w.heap.size + 1 + 1 + 1 + 1 + e.1, 0, none⟩)) ∧ wr.cell? ⟨gb, j, none⟩ = some (.float .f64 e.2)

theorem St.ent (h : St w wr n K runs lgf cu (es.map (·.1)) (es.map (·.2)) kp cm es (.slice (some ⟨gi, 0, none⟩) es.length ci) (.slice (some ⟨gb, 0, none⟩) es.length cb) (.slice (some ⟨gc, 0, none⟩) es.length cc)) {j : Nat} {e : Nat × Nat} (he : es[j]? = some e) (hen : e.1 < n) :
    Ent w wr n es cc gi gb gc j e := by
  have hj : j < es.length := (List.getElem?_eq_some_iff.1 he).1
  obtain ⟨e0, e1, e2⟩ := flat_at (w.heap.size + 1 + 1 + 1 + 1) es j e he
  have oi := h.oix
  have ob := h.obf
  rw [List.length_map] at oi ob
  refine ⟨by simp [World.cell?, h.mac, machB], (h.chg.cellAt (j * 3) (by omega)).trans e0, (h.chg.cellAt (j * 3 + 1) (by omega)).trans e1, (h.chg.cellAt (j * 3 + 2) (by omega)).trans e2, (oi.cellAt j (by omega)).trans ?_, h.ptrs.cell hen, (ob.cellAt j (by omega)).trans ?_⟩
  · simp [he]
  · simp [he]

theorem same_st {vi vb vc : Value} {ix bf : List Nat} (h : Hid (St w wr n K runs lgf cu ix bf kp cm es vi vb vc)) (x q : Nat) :
    Calls Yba.prog 6 #[.agg #[.float .f64 x, .nilIface], .float .f64 x] (wr.drewN q) fun e w' => e = .returned (.bool true) ∧ Hid (St w w' n K runs lgf cu ix bf kp cm es vi vb vc) := by
  refine (same_true x _).mono ?_
  rintro e w' ⟨rfl, rfl⟩
  exact ⟨rfl, (h.out.drewN q).alloc _⟩
end

theorem neq_ptr_same (a : Addr) (w : World) : (binOp .neq 28 (.pointer (some a)) (.pointer (some a))).run Yba.prog w = .ok (.bool false) w := by
  obtain ⟨i, hi, _⟩ := Option.map_eq_some_iff.1 (show (Yba.prog.info? 32).map (·.size) = some 5 by kernel_rfl)
  have h : ∀ d : Nat, (Op.equalIn (d + 1) 28 (.pointer (some a)) (.pointer (some a))).run Yba.prog w = .ok true w := fun d => by
    simp [Op.equalIn, run_underlying Yba.underlying28, sizeOf, typeInfo, hi, run_sameAddr_same]
  simp only [binOp]
  simp [Op.equal, Op.maxDepth, h 9999]

section
variable {w wr : World} {n : Nat} {K : Nat → Int} {runs : Int} {lgf : Nat → Bool} {cu : Nat → Nat} {ix bf : List Nat} {kp : Nat → Int} {cm : Nat → Nat} {es : List (Nat × Nat)} {vi vb vc : Value}

/-- The cells that the law's look at cell i reads. -/
def Look (w wr : World) (i : Nat) (l : Bool) (kp ki : Int) (c x : Nat) : Prop :=
  wr.cell? ⟨w.heap.size, i, none⟩ = some (.pointer (some ⟨w.heap.size + 1 + 1 + 1 + 1 + i, 0, none⟩)) ∧ wr.cell? ⟨w.heap.size + 1 + 1 + 1 + 1 + i, 0, none⟩ = some (.bool false) ∧ wr.cell? ⟨w.heap.size + 1 + 1 + 1 + 1 + i, 1, none⟩ = some (.int .i64 (i : Int)) ∧
  wr.cell? ⟨w.heap.size + 1 + 1 + 1 + 1 + i, 2, none⟩ = some (.float .f64 x) ∧ wr.cell? ⟨w.heap.size + 1 + 1 + 1 + 1 + i, 3, none⟩ = some .nilIface ∧ wr.cell? ⟨w.heap.size + 1 + 1 + 1 + 1 + i, 4, none⟩ = some (.int .i64 kp) ∧
  wr.cell? ⟨w.heap.size + 1, i, none⟩ = some (.int .i64 ki) ∧ wr.cell? ⟨w.heap.size + 1 + 1, i, none⟩ = some (.bool l) ∧ wr.cell? ⟨w.heap.size + 1 + 1 + 1, i, none⟩ = some (.float .f64 c)

theorem St.look (h : St w wr n K runs lgf cu ix bf kp cm es vi vb vc) {i : Nat} (hi : i < n) : Look w wr i (lgf i) (kp i) (K i) (cu i) (cm i) := by
  have hc := h.cels i hi
  refine ⟨h.ptrs.cell hi, ?_, ?_, ?_, ?_, ?_, h.orig.cell hi, h.lgd.cell hi, h.cur.cell hi⟩ <;> simp [World.cell?, hc, cellB]

/-- Behind undo. -/
structure Fin (w wr : World) (n : Nat) (K : Nat → Int) (cu x : Nat → Nat) : Prop where
  below : Below w.heap.size w wr
  ptrs : wr.rowIs w.heap.size 28 n (fun i => .pointer (some ⟨w.heap.size + 1 + 1 + 1 + 1 + i, 0, none⟩))
  orig : wr.rowIs (w.heap.size + 1) 3 n (fun i => .int .i64 (K i))
  cur : wr.rowIs (w.heap.size + 1 + 1 + 1) 27 n (fun i => .float .f64 (cu i))
  cels : ∀ i, i < n → ∃ kp, wr.heap[w.heap.size + 1 + 1 + 1 + 1 + i]? = some (cellB i (x i) kp)

theorem fin_start {w' : World} {ao : Option Addr} {c : Nat} (h : St w wr n K runs lgf cu ix bf kp cm es vi vb (.slice ao es.length c))
    (hU : Undo wr w' n (w.heap.size + 1 + 1 + 1 + 1) (w.heap.size + 1 + 1 + 1 + 1 + n + 1 + 1) kp cm es (.slice ao es.length c) es.length) : Fin w w' n K cu (und es cm) := by
  have hs := h.size
  have ho : ∀ k, k < w.heap.size + 1 + 1 + 1 + 1 → w'.heap[k]? = wr.heap[k]? := fun k hk => hU.rest k (by omega) (.inl hk)
  refine ⟨h.below.trans ⟨hU.os, hU.tape, hU.output, hU.size, fun k hk => ho k (by omega)⟩, h.ptrs.of_block (ho _ (by omega)), h.orig.of_block (ho _ (by omega)), h.cur.of_block (ho _ (by omega)), fun i hi => ⟨kp i, ?_⟩⟩
  have := hU.cels i hi
  rwa [List.take_length] at this

theorem Fin.alloc {x : Nat → Nat} (h : Fin w wr n K cu x) (hn : 0 < n) (o : Obj) : Fin w (wr.alloc o) n K cu x := by
  have hl : ∀ i, i < n → w.heap.size + 1 + 1 + 1 + 1 + i < wr.heap.size := fun i hi => by
    obtain ⟨_, h1⟩ := h.cels i hi
    exact (Array.getElem?_eq_some_iff.1 h1).1
  have h0 := hl 0 hn
  refine ⟨h.below.alloc (by omega) o, h.ptrs.alloc o, h.orig.alloc o, h.cur.alloc o, fun i hi => ?_⟩
  obtain ⟨kp, h1⟩ := h.cels i hi
  exact ⟨kp, by rw [Below.heap_alloc _ _ _ (hl i hi)]; exact h1⟩
end

set_option maxHeartbeats 16000000 in
set_option maxRecDepth 100000 in
theorem closed_walk (F : Nat → Nat) (hcv : ∀ (i : Nat) (w : World), (convert 3 27 (.int .i64 (i : Int))).run Yba.prog w = .ok (.float .f64 (F i)) w) (runs : Int) (a0 : Option Addr) (L cap0 : Nat) (kz : Nat → Int) (b off : Nat) (sa : Option Addr) (m cap1 : Nat) (cz : Nat → Int) (nm : Nat → Nat) (sb so : Nat) (w : World) (hL : L ≤ 256) (hm : m ≤ 1024)
    (ha : 0 < L → a0 = some ⟨b, off, none⟩) (hb : 0 < L → b < w.heap.size) (hc : ∀ i, i < L → w.cell? ⟨b, off + i, none⟩ = some (.int .i64 (kz i)))
    (hsa : 0 < m → sa = some ⟨sb, so, none⟩) (hsb : 0 < m → sb < w.heap.size) (hs0 : ∀ t, t < m → w.cell? ⟨sb, so + t * 2, none⟩ = some (.int .u8 (cz t))) (hs1 : ∀ t, t < m → w.cell? ⟨sb, so + t * 2 + 1, none⟩ = some (.float .f64 (nm t)))
    (hcz : ∀ t, t < m → 0 ≤ cz t ∧ cz t ≤ 255) :
    Calls Yba.prog 3 #[.int .i64 runs, .slice a0 L cap0, .slice sa m cap1] w fun e w' => e = .returned (.bool true) ∧ Below w.heap.size w w' := by
  obtain ⟨n, hn0, hn1, hnL⟩ : ∃ n : Nat, 0 < n ∧ n ≤ 256 ∧ n = (if L = 0 then 1 else L) := ⟨_, by split <;> omega, by split <;> omega, rfl⟩
  have HN := hide hnL
  clear hnL
  have d1 : decide ((256 : Int) < (L : Int)) = false := by simp; omega
  have d2 : decide ((1024 : Int) < (m : Int)) = false := by simp; omega
  have hmk24 := run_make_row' (P := Yba.prog) 24 28 (.pointer none) 8 Yba.underlying24 Yba.info28 rfl .i64 .i64 n (by omega) (by omega)
  have hmk22 := run_make_row' (P := Yba.prog) 22 3 (.int .i64 0) 8 Yba.underlying22 Yba.info3 rfl .i64 .i64 n (by omega) (by omega)
  have hmk25 := run_make_row' (P := Yba.prog) 25 4 (.bool false) 1 Yba.underlying25 Yba.info4 rfl .i64 .i64 n (by omega) (by omega)
  have hmk26 := run_make_row' (P := Yba.prog) 26 27 (.float .f64 0) 8 Yba.underlying26 Yba.info27 rfl .i64 .i64 n (by omega) (by omega)
  go_enter Yba.func3, Yba.ntmps3
  go_upto_if 37 with fail
  go_cut [7] from 37 to 37 (fun s wc => s = .int .i64 (n : Int) ∧ w = wc)
  case first =>
    by_cases hL0 : L = 0
    · have e0 : ((L : Int) == 0) = true := by simp; omega
      go_wp2_with fail
      go_meet
      exact ⟨by rw [unhide HN, if_pos hL0]; rfl, rfl⟩
    · have e0 : ((L : Int) == 0) = false := by simp; omega
      go_wp2_with fail
      go_meet
      exact ⟨by rw [unhide HN, if_neg hL0], rfl⟩
  case rest =>
    obtain ⟨rfl, rfl⟩ := hcut
    go_wp2
    clear hmk24 hmk22 hmk25 hmk26
    go_loopg [12] n (fun g i wr => ∃ k : Nat, k ≤ n ∧ g = n - k ∧ i = .int .i64 k ∧ Mk w wr n F (keptOf L kz runs) runs k)
    case atStart => exact ⟨0, Nat.zero_le _, rfl, rfl, mk_start w n F _ runs⟩
    case round =>
      obtain ⟨k, hk, rfl, rfl, hF⟩ := hrel
      by_cases hkn : k < n
      · have hkz : (k : Int) < (n : Int) := by omega
        have hz := hF.size
        have p0 := hF.ptrs.cell hkn
        have p1 := hF.orig.cell hkn
        have p2 := hF.lgd.cell hkn
        have p3 := hF.cur.cell hkn
        simp only [Nat.lt_irrefl, if_false] at p0 p1 p2 p3
        have q0 := hF.ptrs.frozen k
        have q1 := hF.orig.frozen k
        have q2 := hF.lgd.frozen k
        have q3 := hF.cur.frozen k
        have x0 : ∀ (o : Obj) (u1 u2 u3 : Value), ((((wr.setCell ⟨w.heap.size + 1, k, none⟩ u1).setCell ⟨w.heap.size + 1 + 1, k, none⟩ u2).setCell ⟨w.heap.size + 1 + 1 + 1, k, none⟩ u3).alloc o).cell? ⟨w.heap.size, k, none⟩ = some (.pointer none) := fun o u1 u2 u3 =>
          (World.cell?_of_block (old_block hz o u1 u2 u3)).trans p0
        have x1 : ∀ (o : Obj) (u1 u2 u3 : Value), ((((wr.setCell ⟨w.heap.size + 1, k, none⟩ u1).setCell ⟨w.heap.size + 1 + 1, k, none⟩ u2).setCell ⟨w.heap.size + 1 + 1 + 1, k, none⟩ u3).alloc o).frozen? ⟨w.heap.size, k, none⟩ = false := fun o u1 u2 u3 =>
          (World.frozen?_of_block (old_block hz o u1 u2 u3)).trans q0
        by_cases hkL : k < L
        · obtain rfl := ha (by omega)
          have hbs := hb (by omega)
          have g0 : wr.cell? ⟨b, off + k, none⟩ = some (.int .i64 (kz k)) := (hF.below.cell (p := ⟨b, off + k, none⟩) hbs).trans (hc k hkL)
          go_wp2
          go_roundg (n - (k + 1))
          case measure => omega
          case rel => exact ⟨k + 1, by omega, rfl, by go_num, mk_step hF (by simp [keptOf, hkL]) rfl⟩
        · go_wp2
          go_roundg (n - (k + 1))
          case measure => omega
          case rel => exact ⟨k + 1, by omega, rfl, by go_num, mk_step hF (by simp [keptOf, hkL]) (by simp)⟩
      · obtain rfl : k = n := by omega
        have hmk34 := make_stack
        have hz := hF.size
        go_wp2
        have HS0 := hide (st_start hF)
        clear hF hz hmk34
        -- LOOP 2: the script of sets
        go_loopg [15, 16, 93] m (fun g s15 s16 s93 wr => ∃ (t : Nat) (es : List (Nat × Nat)) (cm : Nat → Nat) (vc : Value), t ≤ m ∧ g = m - t ∧ s93 = .int .i64 t ∧ es.length ≤ t ∧ Tie k F (keptOf L kz runs) runs es cm ∧
          St w wr k (keptOf L kz runs) runs (lgOf (keptOf L kz runs) runs es) cm (es.map (·.1)) (es.map (·.2)) (kpOf (keptOf L kz runs) runs es) cm es s15 s16 vc)
        case atStart => exact ⟨0, [], F, _, Nat.zero_le _, rfl, rfl, Nat.le_refl _, Tie.start _ _ _ _, unhide HS0⟩
        case round =>
          clear HS0
          obtain ⟨t, es, cm, vc, ht, rfl, rfl, hlen, hT, hS⟩ := hrel
          by_cases htm : t < m
          · have htz : (t : Int) < (m : Int) := by omega
            obtain rfl := hsa (by omega)
            obtain ⟨z0, z1⟩ := hcz t htm
            have hsize := hS.size
            have r0 : wr.cell? ⟨sb, so + t * 2, none⟩ = some (.int .u8 (cz t)) := (hS.below.cell (p := ⟨sb, so + t * 2, none⟩) (hsb (by omega))).trans (hs0 t htm)
            have r1 : wr.cell? ⟨sb, so + t * 2 + 1, none⟩ = some (.float .f64 (nm t)) := (hS.below.cell (p := ⟨sb, so + t * 2 + 1, none⟩) (hsb (by omega))).trans (hs1 t htm)
            obtain ⟨i, hie, hi⟩ : ∃ i : Nat, cz t % (k : Int) = (i : Int) ∧ i < k := ⟨(cz t % (k : Int)).toNat, by
              have := Int.emod_nonneg (cz t) (show (k : Int) ≠ 0 by omega)
              omega, by
              have := Int.emod_nonneg (cz t) (show (k : Int) ≠ 0 by omega)
              have := Int.emod_lt_of_pos (cz t) (show (0 : Int) < (k : Int) by omega)
              omega⟩
            have hkz : (0 : Int) < (k : Int) := by omega
            have hiz : (i : Int) < (k : Int) := by omega
            have pI := hS.ptrs.cell hi
            have hS1 := hS.alloc (.cells #[.int .u8 (cz t), .float .f64 (nm t)] 44)
            clear hS
            have pI1 : (wr.alloc (.cells #[.int .u8 (cz t), .float .f64 (nm t)] 44)).cell? ⟨w.heap.size, i, none⟩ = some (.pointer (some ⟨w.heap.size + 1 + 1 + 1 + 1 + i, 0, none⟩)) := hS1.ptrs.cell hi
            have pS1 : (wr.alloc (.cells #[.int .u8 (cz t), .float .f64 (nm t)] 44)).cell? ⟨wr.heap.size, 1, none⟩ = some (.float .f64 (nm t)) := by simp
            have HS1 := hide hS1
            clear hS1
            cases hlg : lgOf (keptOf L kz runs) runs es i with
            | true =>
              have HL := hide hlg
              clear hlg
              go_upto_region 27 with fail
              rw [hie]
              go_region_held3 (fun w' => w'.cell? ⟨w.heap.size, i, none⟩ = some (.pointer (some ⟨w.heap.size + 1 + 1 + 1 + 1 + i, 0, none⟩)) ∧ w'.cell? ⟨wr.heap.size, 1, none⟩ = some (.float .f64 (nm t))) (go_keep)
                (first | (go_at_call 5; refine (set_kept_st (unhide HS1) hi (unhide HL) (nm t) 1).mono ?_; rintro e w1 ⟨rfl, hS2, hst, ⟨a1, a2, a3, a4, a5⟩⟩))
              go_wp2
              go_roundg (m - (t + 1))
              case measure => omega
              case rel => exact ⟨t + 1, es, _, vc, by omega, rfl, by go_num, by omega, hT.kept (unhide HL) (nm t), hS2.setCur i (nm t)⟩
            | false =>
              have HL := hide hlg
              have hsz : (es.map (·.1)).length ≤ 2000 := by simp; omega
              have hsz' : (es.map (·.2)).length ≤ 2000 := by simp; omega
              clear hlg
              go_upto_region 27 with fail
              rw [hie]
              go_region_held3 (fun w' => w'.cell? ⟨w.heap.size, i, none⟩ = some (.pointer (some ⟨w.heap.size + 1 + 1 + 1 + 1 + i, 0, none⟩)) ∧ w'.cell? ⟨wr.heap.size, 1, none⟩ = some (.float .f64 (nm t))) (go_keep)
                (first | (go_at_call 5; refine (set_logged_st (unhide HS1) hi (unhide HL) (by omega) (nm t) 1).mono ?_; rintro e w1 ⟨rfl, vc1, hS2, hst, ⟨a1, a2, a3, a4, a5⟩⟩; have st1 : w1.cell? ⟨wr.heap.size, 1, none⟩ = some (.float .f64 (nm t)) := (by simp [World.cell?, hst])))
              have HS2 := hide hS2
              clear hS2
              go_wp2_with (first
                | (at_builtin; refine wpList_idx (i := i) rfl rfl HS2 rfl rfl hsz hst hi ?_; intro v2 w2 HS3 hst2 hat2; obtain ⟨b1, b2, b3, b4, b5⟩ := hat2)
                | (at_builtin; refine wpList_bef (i := i) rfl rfl HS3 rfl rfl hsz' hst2 hi ?_; intro v3 w3 HS4 hst3 st3 hat3; obtain ⟨c1, c2, c3, c4, c5⟩ := hat3))
              go_roundg (m - (t + 1))
              case measure => omega
              case rel => exact ⟨t + 1, es ++ [(i, cm i)], _, vc1, by omega, rfl, by go_num, by simp; omega, hT.logged hi (unhide HL) (nm t), st_round HS4⟩
          · obtain rfl : t = m := by omega
            obtain ⟨ai, ci, h15⟩ : ∃ ai ci, u15 = .slice ai es.length ci := by
              obtain ⟨a, c, h⟩ := own_slice hS.oix
              exact ⟨a, c, by simpa using h⟩
            obtain ⟨ab, cb, h16⟩ : ∃ ab cb, u16 = .slice ab es.length cb := by
              obtain ⟨a, c, h⟩ := own_slice hS.obf
              exact ⟨a, c, by simpa using h⟩
            obtain ⟨ac, cc, hvc⟩ := own_slice hS.chg
            subst h15 h16 hvc
            have m10 : wr.cell? ⟨w.heap.size + 1 + 1 + 1 + 1 + k + 1, 10, none⟩ = some (.slice ac es.length cc) := by simp [World.cell?, hS.mac, machB]
            have HS := hide hS
            clear hS
            go_wp2
            clear m10
            -- LOOP 3: the log
            go_loopg [20] es.length (fun g s20 wr => ∃ j : Nat, j ≤ es.length ∧ g = es.length - j ∧ s20 = .int .i64 j ∧
              Hid (St w wr k (keptOf L kz runs) runs (lgOf (keptOf L kz runs) runs es) cm (es.map (·.1)) (es.map (·.2)) (kpOf (keptOf L kz runs) runs es) cm es (.slice ai es.length ci) (.slice ab es.length cb) (.slice ac es.length cc)))
            case atStart => exact ⟨0, Nat.zero_le _, rfl, rfl, HS⟩
            case round =>
              clear HS
              obtain ⟨j, hj, rfl, rfl, HS⟩ := hrel
              by_cases hje : j < es.length
              · have hjz : (j : Int) < (es.length : Int) := by omega
                obtain ⟨e, he⟩ : ∃ e, es[j]? = some e := ⟨_, List.getElem?_eq_getElem hje⟩
                have hen : e.1 < k := (hT.log e (List.mem_of_getElem? he)).1
                have oi := HS.out.oix
                have ob := HS.out.obf
                rw [List.length_map] at oi ob
                obtain ⟨gi, rfl⟩ := own_some oi (by omega)
                obtain ⟨gb, rfl⟩ := own_some ob (by omega)
                obtain ⟨gc, rfl⟩ := own_some HS.out.chg (by omega)
                obtain ⟨f1, f2, f3, f4, f5, f6, f7⟩ := HS.out.ent he hen
                have hez : (e.1 : Int) < (k : Int) := by omega
                have HE := hide he
                have hpp := neq_ptr_same
                clear he oi ob
                go_upto_region 39 with fail
                go_region_held3 (fun w' => w'.cell? ⟨w.heap.size + 1 + 1 + 1 + 1 + k + 1, 10, none⟩ = some (.slice (some ⟨gc, 0, none⟩) es.length cc) ∧ w'.cell? ⟨gc, j * 3, none⟩ = some (.pointer (some ⟨w.heap.size + 1 + 1 + 1 + 1 + e.1, 0, none⟩)) ∧
                    w'.cell? ⟨gc, j * 3 + 1, none⟩ = some (.float .f64 e.2) ∧ w'.cell? ⟨gc, j * 3 + 1 + 1, none⟩ = some .nilIface ∧ w'.cell? ⟨gi, j, none⟩ = some (.int .i64 (e.1 : Int)) ∧
                    w'.cell? ⟨w.heap.size, e.1, none⟩ = some (.pointer (some ⟨w.heap.size + 1 + 1 + 1 + 1 + e.1, 0, none⟩)) ∧ w'.cell? ⟨gb, j, none⟩ = some (.float .f64 e.2)) (go_keep)
                  (first | (go_at_call 6; refine (same_st HS e.2 1).mono ?_; rintro x w1 ⟨rfl, HS1⟩; obtain ⟨k1, k2, k3, k4, k5, k6, k7⟩ := HS1.out.ent (unhide HE) hen))
                go_wp2
                go_roundg (es.length - (j + 1))
                case measure => omega
                case rel => exact ⟨j + 1, by omega, rfl, by go_num, HS1⟩
              · have m3 : wr.cell? ⟨w.heap.size + 1 + 1 + 1 + 1 + k + 1, 3, none⟩ = some (.slice (some ⟨w.heap.size + 1 + 1 + 1 + 1 + k, 0, none⟩) 1 1) := by simp [World.cell?, HS.out.mac, machB]
                have m9 : wr.cell? ⟨w.heap.size + 1 + 1 + 1 + 1 + k + 1, 9, none⟩ = some (.int .i64 runs) := by simp [World.cell?, HS.out.mac, machB]
                have s0 : wr.cell? ⟨w.heap.size + 1 + 1 + 1 + 1 + k, 0, none⟩ = some (.float .f64 0) := by simp [World.cell?, HS.out.stk]
                have s1 : wr.cell? ⟨w.heap.size + 1 + 1 + 1 + 1 + k, 1, none⟩ = some .nilIface := by simp [World.cell?, HS.out.stk]
                have hfb := fbits
                go_wp2
                clear m3 m9 s0 s1
                -- LOOP 4: the cells
                go_loopg [21] k (fun g s21 wr => ∃ i : Nat, i ≤ k ∧ g = k - i ∧ s21 = .int .i64 i ∧
                  Hid (St w wr k (keptOf L kz runs) runs (lgOf (keptOf L kz runs) runs es) cm (es.map (·.1)) (es.map (·.2)) (kpOf (keptOf L kz runs) runs es) cm es (.slice ai es.length ci) (.slice ab es.length cb) (.slice ac es.length cc)))
                case atStart => exact ⟨0, Nat.zero_le _, rfl, rfl, HS⟩
                case round =>
                  clear HS
                  obtain ⟨i, hi, rfl, rfl, HS⟩ := hrel
                  by_cases hik : i < k
                  · have hiz : (i : Int) < (k : Int) := by omega
                    have hlook := HS.out.look hik
                    cases hlg : lgOf (keptOf L kz runs) runs es i with
                    | true =>
                      rw [hlg, kpOf_true hlg] at hlook
                      obtain ⟨l1, l2, l3, l4, l5, l6, l7, l8, l9⟩ := hlook
                      have HL := hide hlg
                      clear hlg
                      go_upto_region 47 with fail
                      go_region_held3 (fun w' => w'.cell? ⟨w.heap.size + 1 + 1 + 1 + 1 + i, 0, none⟩ = some (.bool false) ∧ w'.cell? ⟨w.heap.size + 1 + 1 + 1 + 1 + i, 1, none⟩ = some (.int .i64 (i : Int)) ∧
                          w'.cell? ⟨w.heap.size + 1 + 1 + 1 + 1 + i, 2, none⟩ = some (.float .f64 (cm i)) ∧ w'.cell? ⟨w.heap.size + 1 + 1 + 1 + 1 + i, 3, none⟩ = some .nilIface ∧ w'.cell? ⟨w.heap.size + 1 + 1 + 1, i, none⟩ = some (.float .f64 (cm i))) (go_keep)
                        (first | (go_at_call 6; refine (same_st HS (cm i) 1).mono ?_; rintro x w1 ⟨rfl, HS1⟩; obtain ⟨k1, k2, k3, k4, k5, k6, k7, k8, k9⟩ := HS1.out.look hik; rw [unhide HL] at k8; rw [kpOf_true (unhide HL)] at k6))
                      go_wp2
                      go_roundg (k - (i + 1))
                      case measure => omega
                      case rel => exact ⟨i + 1, by omega, rfl, by go_num, HS1⟩
                    | false =>
                      rw [hlg, kpOf_false hlg] at hlook
                      obtain ⟨l1, l2, l3, l4, l5, l6, l7, l8, l9⟩ := hlook
                      have HL := hide hlg
                      clear hlg
                      go_upto_region 47 with fail
                      go_region_held3 (fun w' => w'.cell? ⟨w.heap.size + 1 + 1 + 1 + 1 + i, 0, none⟩ = some (.bool false) ∧ w'.cell? ⟨w.heap.size + 1 + 1 + 1 + 1 + i, 1, none⟩ = some (.int .i64 (i : Int)) ∧
                          w'.cell? ⟨w.heap.size + 1 + 1 + 1 + 1 + i, 2, none⟩ = some (.float .f64 (cm i)) ∧ w'.cell? ⟨w.heap.size + 1 + 1 + 1 + 1 + i, 3, none⟩ = some .nilIface ∧ w'.cell? ⟨w.heap.size + 1 + 1 + 1, i, none⟩ = some (.float .f64 (cm i))) (go_keep)
                        (first | (go_at_call 6; refine (same_st HS (cm i) 1).mono ?_; rintro x w1 ⟨rfl, HS1⟩; obtain ⟨k1, k2, k3, k4, k5, k6, k7, k8, k9⟩ := HS1.out.look hik; rw [unhide HL] at k8; rw [kpOf_false (unhide HL)] at k6))
                      go_wp2
                      go_roundg (k - (i + 1))
                      case measure => omega
                      case rel => exact ⟨i + 1, by omega, rfl, by go_num, HS1⟩
                  · have HU := hide (undo_any wr (w.heap.size + 1 + 1 + 1 + 1 + k + 1) k (w.heap.size + 1 + 1 + 1 + 1) (w.heap.size + 1 + 1 + 1 + 1 + k + 1 + 1) _ runs _ cm es ac cc HS.out.mac HS.out.cels HS.out.chg (fun e he => (hT.log e he).1) (by omega))
                    go_wp2_with fail
                    refine (unhide HU).mono ?_
                    rintro e w1 ⟨rfl, hU⟩
                    have HF := hide (fin_start HS.out hU)
                    clear hU HU HS
                    go_wp2
                    -- LOOP 5: behind undo
                    go_loopg [24] k (fun g s24 wr => ∃ i : Nat, i ≤ k ∧ g = k - i ∧ s24 = .int .i64 i ∧ Hid (Fin w wr k (keptOf L kz runs) cm (und es cm)))
                    case atStart => exact ⟨0, Nat.zero_le _, rfl, rfl, HF⟩
                    case round =>
                      clear HF
                      obtain ⟨q, hq, rfl, rfl, HF⟩ := hrel
                      by_cases hqk : q < k
                      · have hqz : (q : Int) < (k : Int) := by omega
                        have l1 := HF.out.ptrs.cell hqk
                        have l2 := HF.out.orig.cell hqk
                        have l3 := HF.out.cur.cell hqk
                        obtain ⟨kp, hce⟩ := HF.out.cels q hqk
                        rw [hT.want hqk] at hce
                        by_cases hKr : keptOf L kz runs q = runs
                        · rw [if_pos hKr] at hce
                          have l4 : wr.cell? ⟨w.heap.size + 1 + 1 + 1 + 1 + q, 2, none⟩ = some (.float .f64 (cm q)) := by simp [World.cell?, hce, cellB]
                          have l5 : wr.cell? ⟨w.heap.size + 1 + 1 + 1 + 1 + q, 3, none⟩ = some .nilIface := by simp [World.cell?, hce, cellB]
                          have hb1 : (keptOf L kz runs q != runs) = false := by simpa using hKr
                          clear hce hKr
                          go_wp2_with (go_at_call 6; refine (same_true _ _).mono ?_; rintro e w2 ⟨rfl, rfl⟩)
                          go_roundg (k - (q + 1))
                          case measure => omega
                          case rel => exact ⟨q + 1, by omega, rfl, by go_num, HF.out.alloc (by omega) _⟩
                        · rw [if_neg hKr] at hce
                          have l4 : wr.cell? ⟨w.heap.size + 1 + 1 + 1 + 1 + q, 2, none⟩ = some (.float .f64 (F q)) := by simp [World.cell?, hce, cellB]
                          have l5 : wr.cell? ⟨w.heap.size + 1 + 1 + 1 + 1 + q, 3, none⟩ = some .nilIface := by simp [World.cell?, hce, cellB]
                          have hb1 : (keptOf L kz runs q != runs) = true := by simpa using hKr
                          clear hce hKr
                          go_wp2_with (go_at_call 6; refine (same_true _ _).mono ?_; rintro e w2 ⟨rfl, rfl⟩)
                          go_roundg (k - (q + 1))
                          case measure => omega
                          case rel => exact ⟨q + 1, by omega, rfl, by go_num, HF.out.alloc (by omega) _⟩
                      · go_wp2
                        go_ret
                        exact ⟨rfl, HF.out.below⟩

end Go.Proofs.Ybulkaqq
