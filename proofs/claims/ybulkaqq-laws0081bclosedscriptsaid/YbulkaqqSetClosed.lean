import Derived.Test.YbulkaqqSame
import Derived.RegionTactic
import Derived.Deep.RegionLaw
import Derived.Deep.QuietTactic
import Derived.BigQuiet
namespace Go.Proofs.Ybulkaqq
open Go.RowKit
attribute [local go_sem] store_float

/-- 'append' of the call's own slice, as one step of a region that draws; at least one element is appended, so the value is written out. -/
theorem step_append_own {P : Program} {ops : Array Oper} {o : Oper} {a : Act} {w : World} {K : Act → World → Prop} {Q : Exit → Act → World → Prop} {E : Prop}
    (hg : o.guard = none) (s x : Operand) (t : TypeId) (hop : o.op = Op.call { callee := Callee.builtin Builtin.append, args := #[s, x], argTypes := #[t, t] })
    (base : Nat) (e : TypeId) (i : TypeInfo) (z : Value) (size bytes : Nat) (h1 : P.underlying t = some (.slice e)) (h2 : P.info? e = some i) (h3 : i.zero = some z) (h4 : i.size = size) (h5 : i.bytes = bytes) (h6 : z.cells.size = size) (h7 : 0 < size)
    (v : Value) (n : Nat) (xs : List Value) (hs : a.eval s = v) (hown : w.ownsRow base e size v n xs)
    (ad : Addr) (c : Nat) (news : List Value) (hx : a.eval x = .slice (some ad) 1 c) (hn : news.length = 1 * size) (hc : ∀ j u, news[j]? = some u → w.cell? (ad.add j) = some u) (h1c : ∀ u ∈ news, u.oneCell' = true)
    (b1 : n + 1 ≤ maxLen) (b2 : (n + 1) * bytes ≤ 140737488355328) (hbase : base ≤ w.heap.size)
    (hK : ∀ g cap w', w'.ownsRow base e size (.slice (some ⟨g, 0, none⟩) (n + 1) cap) (n + 1) (xs ++ news) → w.grownBy w' v.ownBlock → K (a.put o.dst (.slice (some ⟨g, 0, none⟩) (n + 1) cap)) w') :
    if Region.wanted o (yielded ops a.tmps) = true then Oper.wp P o a w K Q else E := by
  have hw : Region.wanted o (yielded ops a.tmps) = true := by simp [Region.wanted, hg]
  rw [if_pos hw]
  obtain ⟨v', w', hrun, r1, r2, r3⟩ := run_append_own (P := P) w base t o.type e i z size bytes h1 h2 h3 h4 h5 h6 h7 v n xs hown ad 1 c news hn hc h1c b1 b2 hbase
  have hv : ∃ g cap, v' = .slice (some ⟨g, 0, none⟩) (n + 1) cap := by
    rcases r1.2 with ⟨_, h⟩ | ⟨g, cap, cur, h, _⟩
    · omega
    · exact ⟨g, cap, h⟩
  obtain ⟨g, cap, rfl⟩ := hv
  unfold Oper.wp
  simp [execOp, hop, resolve, invoke, builtin, hs, hx, hrun, Result.andThen]
  exact hK g cap w' r1 r2

def cellB (s : Nat) (x : Nat) (kept : Int) : Obj := .cells #[.bool false, .int .i64 s, .float .f64 x, .nilIface, .int .i64 kept] 32
def machB (S : Nat) (runs : Int) (vc : Value) : Obj := .cells #[.pointer none, .slice none 0 0, .slice none 0 0, .slice (some ⟨S, 0, none⟩) 1 1, .int .i64 0, .int .i64 0, .slice none 0 0, .int .i64 0, .slice none 0 0,
  .int .i64 runs, vc, .nilIface, .int .u64 0, .int .i64 0] 42

/-- What 'set' leaves at a closed cell that the run has kept already. -/
structure SetKept (w w' : World) (C s v : Nat) (runs : Int) : Prop where
  os : w'.os = w.os
  tape : w'.tape = w.tape
  output : w'.output = w.output
  size : w.heap.size ≤ w'.heap.size
  cel : w'.heap[C]? = some (cellB s v runs)
  rest : ∀ k, k < w.heap.size → k ≠ C → w'.heap[k]? = w.heap[k]?

/-- What 'set' leaves at a closed cell that the run has not kept yet. -/
structure SetLogged (w w' : World) (C M S s v x : Nat) (runs : Int) (vc : Value) (base n : Nat) (xs : List Value) (vc' : Value) : Prop where
  os : w'.os = w.os
  tape : w'.tape = w.tape
  output : w'.output = w.output
  size : w.heap.size ≤ w'.heap.size
  cel : w'.heap[C]? = some (cellB s v runs)
  mac : w'.heap[M]? = some (machB S runs vc')
  chg : w'.ownsRow base 47 3 vc' (n + 1) (xs ++ [.pointer (some ⟨C, 0, none⟩), .float .f64 x, .nilIface])
  rest : ∀ k, k < w.heap.size → k ≠ C → k ≠ M → some k ≠ vc.ownBlock → w'.heap[k]? = w.heap[k]?

theorem setCell_same (w : World) (b o : Nat) (v : Value) (cs : Array Value) (t : TypeId) (h : w.heap[b]? = some (.cells cs t (0, 0))) : (w.setCell ⟨b, o, none⟩ v).heap[b]? = some (.cells (cs.setIfInBounds o v) t (0, 0)) := by
  simp [World.setCell, Array.getElem?_modify, h]

theorem set_kept_end {w w' : World} {C s x v : Nat} {runs : Int} {o : Obj} (hC : w.heap[C]? = some (cellB s x runs))
    (hh : w'.heap = (((w.alloc o).setCell ⟨C, 2, none⟩ (.float .f64 v)).setCell ⟨C, 3, none⟩ .nilIface).heap) (h1 : w'.os = w.os) (h2 : w'.tape = w.tape) (h3 : w'.output = w.output) : SetKept w w' C s v runs := by
  have bC : C < w.heap.size := (Array.getElem?_eq_some_iff.1 hC).1
  refine ⟨h1, h2, h3, ?_, ?_, fun k hk hne => ?_⟩
  · rw [hh]; simp [World.setCell]
  · rw [hh, setCell_same _ _ _ _ _ _ (setCell_same _ _ _ _ _ _ ((Below.heap_alloc _ o _ bC).trans hC))]
    rfl
  · rw [hh, Below.heap_setCell _ _ _ _ hne, Below.heap_setCell _ _ _ _ hne, Below.heap_alloc _ _ _ hk]

set_option maxHeartbeats 400000 in
/-- 'set' at a closed cell that the run has kept already: the value alone is written. -/
theorem set_kept (M C s : Nat) (x v : Nat) (runs : Int) (S : Nat) (vc : Value) (w : World) (hC : w.heap[C]? = some (cellB s x runs)) (hM : w.heap[M]? = some (machB S runs vc)) :
    Calls Yba.prog 5 #[.pointer (some ⟨M, 0, none⟩), .pointer (some ⟨C, 0, none⟩), .agg #[.float .f64 v, .nilIface]] w fun e w' => e = .returned (.tuple #[]) ∧
      SetKept w w' C s v runs := by
  have bC : C < w.heap.size := (Array.getElem?_eq_some_iff.1 hC).1
  have bM : M < w.heap.size := (Array.getElem?_eq_some_iff.1 hM).1
  have c0 : w.cell? ⟨C, 0, none⟩ = some (.bool false) := by simp [World.cell?, hC, cellB]
  have c2 : w.cell? ⟨C, 2, none⟩ = some (.float .f64 x) := by simp [World.cell?, hC, cellB]
  have c3 : w.cell? ⟨C, 3, none⟩ = some .nilIface := by simp [World.cell?, hC, cellB]
  have c4 : w.cell? ⟨C, 4, none⟩ = some (.int .i64 runs) := by simp [World.cell?, hC, cellB]
  have f2 : w.frozen? ⟨C, 2, none⟩ = false := by simp [World.frozen?, hC, cellB]
  have f3 : w.frozen? ⟨C, 3, none⟩ = false := by simp [World.frozen?, hC, cellB]
  have m9 : w.cell? ⟨M, 9, none⟩ = some (.int .i64 runs) := by simp [World.cell?, hM, machB]
  have H := hide hC
  clear hC hM
  go_enter Yba.func5, Yba.ntmps5
  go_wp2
  go_quiet (fail)
  go_wp2
  go_end0
  exact ⟨rfl, set_kept_end (o := .cells #[.float .f64 v, .nilIface] 30) (unhide H) rfl rfl rfl rfl⟩

/-- What is owned stays owned where the old blocks stand. -/
theorem own_old {w W : World} {base : Nat} {e : TypeId} {size : Nat} {v : Value} {n : Nat} {xs : List Value} (h : w.ownsRow base e size v n xs) (hb : ∀ k, k < w.heap.size → W.heap[k]? = w.heap[k]?) : W.ownsRow base e size v n xs := by
  refine ⟨h.1, ?_⟩
  rcases h.2 with h2 | ⟨g, cap, cur, hv, hg, hh, r⟩
  · exact .inl h2
  · exact .inr ⟨g, cap, cur, hv, hg, by rw [hb g (Array.getElem?_eq_some_iff.1 hh).1]; exact hh, r⟩

/-- .. where every row of that element type stands. -/
theorem own_other {w W : World} {base : Nat} {e : TypeId} {size : Nat} {v : Value} {n : Nat} {xs : List Value} (h : w.ownsRow base e size v n xs) (hb : ∀ (k : Nat) (c : Array Value), w.heap[k]? = some (.cells c e (0, 0)) → W.heap[k]? = w.heap[k]?) : W.ownsRow base e size v n xs := by
  refine ⟨h.1, ?_⟩
  rcases h.2 with h2 | ⟨g, cap, cur, hv, hg, hh, r⟩
  · exact .inl h2
  · exact .inr ⟨g, cap, cur, hv, hg, by rw [hb g _ hh]; exact hh, r⟩

theorem own_row {w : World} {base : Nat} {e : TypeId} {size : Nat} {v : Value} {n : Nat} {xs : List Value} (h : w.ownsRow base e size v n xs) {k : Nat} (hk : v.ownBlock = some k) : ∃ c, w.heap[k]? = some (.cells c e (0, 0)) := by
  rcases h.2 with ⟨rfl, _⟩ | ⟨g, cap, cur, rfl, _, hh, _⟩
  · simp [Value.ownBlock] at hk
  · simp [Value.ownBlock] at hk
    subst hk
    exact ⟨_, hh⟩

theorem cells_three (W : World) (a b c : Value) (t : TypeId) (k : Nat) (h : W.heap[k]? = some (.cells #[a, b, c] t (0, 0))) : ∀ j u, [a, b, c][j]? = some u → W.cell? ((⟨k, 0, none⟩ : Addr).add j) = some u := by
  intro j u hj
  have hadd : (⟨k, 0, none⟩ : Addr).add j = ⟨k, j, none⟩ := by unfold Addr.add; split <;> simp_all
  rw [hadd]
  simp only [World.cell?, h]
  simpa using hj

theorem Yba.info47 : (Yba.prog.info? 47).map (fun i => (i.zero, i.size, i.bytes)) = some (some (.agg #[.pointer none, .float .f64 0, .nilIface]), 3, 32) := by kernel_rfl

/-- Behind the append, ahead of the stores. -/
structure SetMid (w w1 : World) (C M S s x v : Nat) (kept runs : Int) (vc : Value) (base n : Nat) (xs : List Value) (g cap : Nat) : Prop where
  os : w1.os = w.os
  tape : w1.tape = w.tape
  output : w1.output = w.output
  size : w.heap.size + 2 ≤ w1.heap.size
  cel : w1.heap[C]? = some (cellB s x kept)
  mac : w1.heap[M]? = some (machB S runs vc)
  chg : w1.ownsRow base 47 3 (.slice (some ⟨g, 0, none⟩) (n + 1) cap) (n + 1) (xs ++ [.pointer (some ⟨C, 0, none⟩), .float .f64 x, .nilIface])
  box : w1.heap[w.heap.size]? = some (.cells #[.float .f64 v, .nilIface] 30)
  rest : ∀ k, k < w.heap.size → some k ≠ vc.ownBlock → w1.heap[k]? = w.heap[k]?

theorem set_mid {w W w1 : World} {C M S s x v : Nat} {kept runs : Int} {vc : Value} {base n : Nat} {xs : List Value} {g cap : Nat} {N : Obj} (q : Nat)
    (hC : w.heap[C]? = some (cellB s x kept)) (hM : w.heap[M]? = some (machB S runs vc)) (hown : w.ownsRow base 47 3 vc n xs)
    (hW : W = ((w.alloc (.cells #[.float .f64 v, .nilIface] 30)).drewN q).alloc N)
    (ho : w1.ownsRow base 47 3 (.slice (some ⟨g, 0, none⟩) (n + 1) cap) (n + 1) (xs ++ [.pointer (some ⟨C, 0, none⟩), .float .f64 x, .nilIface])) (hg : W.grownBy w1 vc.ownBlock) :
    SetMid w w1 C M S s x v kept runs vc base n xs g cap := by
  subst hW
  have hr : ∀ k, k < w.heap.size → some k ≠ vc.ownBlock → w1.heap[k]? = w.heap[k]? := by
    intro k hk hn
    have h1 := hg.block k (by simp; omega) hn
    rw [h1]
    exact (Below.heap_alloc _ _ k (by simp; omega)).trans (Below.heap_alloc w _ k hk)
  have bC : C < w.heap.size := (Array.getElem?_eq_some_iff.1 hC).1
  have bM : M < w.heap.size := (Array.getElem?_eq_some_iff.1 hM).1
  refine ⟨hg.os, hg.tape, hg.output, ?_, ?_, ?_, ho, ?_, hr⟩
  · have := hg.size; simp at this; omega
  · rw [hr C bC (fun e => by obtain ⟨c, hc⟩ := own_row hown e.symm; rw [hC] at hc; simp [cellB] at hc)]; exact hC
  · rw [hr M bM (fun e => by obtain ⟨c, hc⟩ := own_row hown e.symm; rw [hM] at hc; simp [machB] at hc)]; exact hM
  · have h1 := hg.block w.heap.size (by simp; omega) (fun e => by
      have := hown.lt _ e.symm
      omega)
    rw [h1]
    exact (Below.heap_alloc _ _ _ (by simp)).trans (heap_alloc_new w _)

theorem SetMid.facts {w w1 : World} {C M S s x v : Nat} {kept runs : Int} {vc : Value} {base n : Nat} {xs : List Value} {g cap : Nat} (h : SetMid w w1 C M S s x v kept runs vc base n xs g cap) :
    w1.cell? ⟨M, 10, none⟩ = some vc ∧ w1.frozen? ⟨M, 10, none⟩ = false ∧ w1.cell? ⟨M, 9, none⟩ = some (.int .i64 runs) ∧
    w1.cell? ⟨C, 2, none⟩ = some (.float .f64 x) ∧ w1.cell? ⟨C, 3, none⟩ = some .nilIface ∧ w1.cell? ⟨C, 4, none⟩ = some (.int .i64 kept) ∧
    w1.frozen? ⟨C, 2, none⟩ = false ∧ w1.frozen? ⟨C, 3, none⟩ = false ∧ w1.frozen? ⟨C, 4, none⟩ = false ∧
    w1.cell? ⟨w.heap.size, 0, none⟩ = some (.float .f64 v) ∧ w1.cell? ⟨w.heap.size, 1, none⟩ = some .nilIface := by
  have h1 := h.mac
  have h2 := h.cel
  have h3 := h.box
  simp [World.cell?, World.frozen?, h1, h2, h3, machB, cellB]

theorem set_logged_end {w w1 : World} {C M S s x v : Nat} {kept runs : Int} {vc : Value} {base n : Nat} {xs : List Value} {g cap : Nat} (hCM : C ≠ M) (h : SetMid w w1 C M S s x v kept runs vc base n xs g cap) :
    SetLogged w ((((w1.setCell ⟨M, 10, none⟩ (.slice (some ⟨g, 0, none⟩) (n + 1) cap)).setCell ⟨C, 4, none⟩ (.int .i64 runs)).setCell ⟨C, 2, none⟩ (.float .f64 v)).setCell ⟨C, 3, none⟩ .nilIface) C M S s v x runs vc base n xs (.slice (some ⟨g, 0, none⟩) (n + 1) cap) := by
  have ho : ∀ k, k ≠ C → k ≠ M → ((((w1.setCell ⟨M, 10, none⟩ (.slice (some ⟨g, 0, none⟩) (n + 1) cap)).setCell ⟨C, 4, none⟩ (.int .i64 runs)).setCell ⟨C, 2, none⟩ (.float .f64 v)).setCell ⟨C, 3, none⟩ .nilIface).heap[k]? = w1.heap[k]? := fun k h1 h2 => by
    rw [Below.heap_setCell _ _ _ _ h1, Below.heap_setCell _ _ _ _ h1, Below.heap_setCell _ _ _ _ h1, Below.heap_setCell _ _ _ _ h2]
  refine ⟨h.os, h.tape, h.output, ?_, ?_, ?_, own_other h.chg fun k c hk => ?_, fun k hk h1 h2 h3 => ?_⟩
  · have := h.size
    simp [World.setCell]; omega
  · rw [setCell_same _ _ _ _ _ _ (setCell_same _ _ _ _ _ _ (setCell_same _ _ _ _ _ _ ((Below.heap_setCell _ _ _ _ hCM).trans h.cel)))]
    rfl
  · rw [Below.heap_setCell _ _ _ _ (Ne.symm hCM), Below.heap_setCell _ _ _ _ (Ne.symm hCM), Below.heap_setCell _ _ _ _ (Ne.symm hCM), setCell_same _ _ _ _ _ _ h.mac]
    rfl
  · refine ho k (fun e => ?_) (fun e => ?_)
    · subst e; rw [h.cel] at hk; simp [cellB] at hk
    · subst e; rw [h.mac] at hk; simp [machB] at hk
  · rw [ho k h1 h2, h.rest k hk h3]

/-- The append of 'set', as one step of its region. -/
theorem step_set {ops : Array Oper} {o : Oper} {a : Act} {K : Act → World → Prop} {Q : Exit → Act → World → Prop} {E : Prop} (hg : o.guard = none)
    (hop : o.op = Op.call { callee := Callee.builtin Builtin.append, args := #[.tmp 33, .tmp 40], argTypes := #[37, 37] })
    {w : World} {C M S s x v : Nat} {kept runs : Int} {ao : Option Addr} {l c : Nat} {base n : Nat} {xs : List Value} (q : Nat)
    (hC : Hid (w.heap[C]? = some (cellB s x kept))) (hM : Hid (w.heap[M]? = some (machB S runs (.slice ao l c)))) (hown : Hid (w.ownsRow base 47 3 (.slice ao l c) n xs)) (hbase : base ≤ w.heap.size) (hn : n ≤ 2000)
    (hs : a.eval (.tmp 33) = .slice ao l c) (hx : a.eval (.tmp 40) = .slice (some ⟨w.heap.size + 1, 0, none⟩) 1 1)
    (hK : ∀ g cap w1, SetMid w w1 C M S s x v kept runs (.slice ao l c) base n xs g cap → K (a.put o.dst (.slice (some ⟨g, 0, none⟩) (n + 1) cap)) w1) :
    if Region.wanted o (yielded ops a.tmps) = true then Oper.wp Yba.prog o a (((w.alloc (.cells #[.float .f64 v, .nilIface] 30)).drewN q).alloc (.cells #[.pointer (some ⟨C, 0, none⟩), .float .f64 x, .nilIface] 47)) K Q else E := by
  obtain ⟨i0, hi, hz0, hz1, hz2⟩ := info_parts Yba.info47
  refine step_append_own hg (.tmp 33) (.tmp 40) 37 hop base 47 i0 _ 3 32 Yba.underlying37 hi hz0 hz1 hz2 rfl (by decide) (.slice ao l c) n xs hs (own_old hown fun k hk => ?_) ⟨w.heap.size + 1, 0, none⟩ 1
    [.pointer (some ⟨C, 0, none⟩), .float .f64 x, .nilIface] hx rfl (cells_three _ _ _ _ 47 _ ?_) ?_ (by simp only [maxLen]; omega) (by omega) (by simp; omega) fun g cap w1 ho hgr => hK g cap w1 (set_mid q hC hM hown rfl ho hgr)
  · exact (Below.heap_alloc _ _ k (by simp; omega)).trans (Below.heap_alloc w _ k hk)
  · have := heap_alloc_new ((w.alloc (.cells #[.float .f64 v, .nilIface] 30)).drewN q) (.cells #[.pointer (some ⟨C, 0, none⟩), .float .f64 x, .nilIface] 47)
    simpa using this
  · intro u hu
    simp at hu
    rcases hu with rfl | rfl | rfl <;> rfl

set_option maxHeartbeats 800000 in
/-- 'set' at a closed cell made before the run: it is logged, with what it held. -/
theorem set_logged (M C s : Nat) (x v : Nat) (kept runs : Int) (S : Nat) (vc : Value) (base n : Nat) (xs : List Value) (w : World) (hne : (kept == runs) = false) (hCM : C ≠ M)
    (hC : w.heap[C]? = some (cellB s x kept)) (hM : w.heap[M]? = some (machB S runs vc)) (hown : w.ownsRow base 47 3 vc n xs) (hbase : base ≤ w.heap.size) (hn : n ≤ 2000) (hvc : ∃ ao l c, vc = .slice ao l c) :
    Calls Yba.prog 5 #[.pointer (some ⟨M, 0, none⟩), .pointer (some ⟨C, 0, none⟩), .agg #[.float .f64 v, .nilIface]] w fun e w' => e = .returned (.tuple #[]) ∧
      ∃ vc', SetLogged w w' C M S s v x runs vc base n xs vc' := by
  obtain ⟨ao, l, c, rfl⟩ := hvc
  have bC : C < w.heap.size := (Array.getElem?_eq_some_iff.1 hC).1
  have bM : M < w.heap.size := (Array.getElem?_eq_some_iff.1 hM).1
  have c0 : w.cell? ⟨C, 0, none⟩ = some (.bool false) := by simp [World.cell?, hC, cellB]
  have c2 : w.cell? ⟨C, 2, none⟩ = some (.float .f64 x) := by simp [World.cell?, hC, cellB]
  have c3 : w.cell? ⟨C, 3, none⟩ = some .nilIface := by simp [World.cell?, hC, cellB]
  have c4 : w.cell? ⟨C, 4, none⟩ = some (.int .i64 kept) := by simp [World.cell?, hC, cellB]
  have m9 : w.cell? ⟨M, 9, none⟩ = some (.int .i64 runs) := by simp [World.cell?, hM, machB]
  have m10 : w.cell? ⟨M, 10, none⟩ = some (.slice ao l c) := by simp [World.cell?, hM, machB]
  have hneq : (kept != runs) = true := by simpa using hne
  have H := hide hC
  have HM := hide hM
  have HO := hide hown
  clear hC hM hown
  go_enter Yba.func5, Yba.ntmps5
  go_wp2
  go_quiet (fail)
  go_wp2
  go_region_law (refine step_set rfl rfl (nq + 1) H HM HO hbase hn (by simp [Act.eval]) (by simp [Act.eval]) ?_; intro g cap w1 hmid; obtain ⟨f1, f2, f3, f4, f5, f6, f7, f8, f9, f10, f11⟩ := hmid.facts)
  all_goals (go_wp2; go_end0; exact ⟨rfl, _, set_logged_end hCM hmid⟩)

end Go.Proofs.Ybulkaqq
