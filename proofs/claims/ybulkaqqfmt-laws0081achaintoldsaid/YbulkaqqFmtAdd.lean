import Derived.Test.YbulkaqqFmtLens
import Derived.Maps.AppendAt
import Derived.Deep.RegionLaw
namespace Go.Proofs.YbulkaqqFmt
open Go.RowKit Go.Maps

theorem setCell_same (w : World) (b o : Nat) (v : Value) (cs : Array Value) (t : TypeId) (h : w.heap[b]? = some (.cells cs t (0, 0))) : (w.setCell ⟨b, o, none⟩ v).heap[b]? = some (.cells (cs.setIfInBounds o v) t (0, 0)) := by
  simp [World.setCell, Array.getElem?_modify, h]

def updV (cv : Nat → Value) (T : Nat) (v : Value) : Nat → Value := fun i => if i = T then v else cv i

/-- A capture that is new: what memory holds behind it. -/
theorem cap_done {E : Env} {w wc w3 w4 : World} {nm : Nat → List Nat} {cv : Nat → Value} (hE : EOk E w.heap.size) (hQ : Q E w wc nm cv) (hI : Pl.Inv E.lk nm) {T k : Nat} (hT : T < E.N) (hk : k < 5) (hnew : k ∉ nm T) (hv : Pl.Valid E.lk nm T k) {q q2 : Nat} {N : Obj}
    (hM : MapIs Ybaf.prog 53 capLit capOk w3 (E.cb T) ((nm T).length + 1) (fun c' => if c' = Pl.capOf E.lk nm T k then some (nm T).length else capIdx (Pl.caps E.lk nm T) c')) (hg3 : (wc.drewN q).grownBy w3 (some (E.cb T)))
    {g cap : Nat} (ho : w4.ownsRow w.heap.size 53 2 (.slice (some ⟨g, 0, none⟩) ((nm T).length + 1) cap) ((nm T).length + 1) (flatC (Pl.caps E.lk nm T) ++ [.bool (Pl.capOf E.lk nm T k).1, .int .i64 ((Pl.capOf E.lk nm T k).2 : Int)]))
    (hg4 : ((w3.drewN q2).alloc N).grownBy w4 (cv T).ownBlock) (hloc : some g = (cv T).ownBlock ∨ g = w3.heap.size + 1) :
    Q E w (w4.setCell ⟨E.fb T, 4, none⟩ (.slice (some ⟨g, 0, none⟩) ((nm T).length + 1) cap)) (Pl.add1 nm T k) (updV cv T (.slice (some ⟨g, 0, none⟩) ((nm T).length + 1) cap)) ∧
      Keep E cv (updV cv T (.slice (some ⟨g, 0, none⟩) ((nm T).length + 1) cap)) wc (w4.setCell ⟨E.fb T, 4, none⟩ (.slice (some ⟨g, 0, none⟩) ((nm T).length + 1) cap)) := by
  have hz3 : wc.heap.size ≤ w3.heap.size := hg3.size
  have hz4 : w3.heap.size + 1 ≤ w4.heap.size := by have := hg4.size; simp at this; omega
  have hfn := hQ.fn T hT
  have hfl : E.fb T < wc.heap.size := (Array.getElem?_eq_some_iff.1 hfn).1
  obtain ⟨es0, cl0, hcm⟩ := (hQ.cmap T hT).block
  have hcl : E.cb T < wc.heap.size := (Array.getElem?_eq_some_iff.1 hcm).1
  have hfc : E.fb T ≠ E.cb T := fun e => by rw [e, hcm] at hfn; simp [funObj] at hfn
  have hco : some (E.cb T) ≠ (cv T).ownBlock := fun e => by obtain ⟨c', hc'⟩ := own_row (hQ.cap T hT) e.symm; rw [hcm] at hc'; simp at hc'
  have hfo : some (E.fb T) ≠ (cv T).ownBlock := fun e => by obtain ⟨c', hc'⟩ := own_row (hQ.cap T hT) e.symm; rw [hfn] at hc'; simp [funObj] at hc'
  -- an old block that is none of the three
  have h4 : ∀ b, b < wc.heap.size → b ≠ E.cb T → some b ≠ (cv T).ownBlock → w4.heap[b]? = wc.heap[b]? := fun b hb h1 h2 => by
    rw [hg4.block b (by simp; omega) h2]
    refine (Below.heap_alloc _ _ b (by simp; omega)).trans ?_
    exact hg3.block b hb (by simpa using h1)
  have h5 : ∀ b, b < wc.heap.size → b ≠ E.fb T → b ≠ E.cb T → some b ≠ (cv T).ownBlock → (w4.setCell ⟨E.fb T, 4, none⟩ (.slice (some ⟨g, 0, none⟩) ((nm T).length + 1) cap)).heap[b]? = wc.heap[b]? := fun b hb h1 h2 h3 => by
    rw [Below.heap_setCell _ _ _ _ h1, h4 b hb h2 h3]
  have hcell : ∀ {b : Nat} {c : Array Value} {t : TypeId} {z : Nat × Nat}, wc.heap[b]? = some (.cells c t z) → t ≠ 46 → t ≠ 53 → (w4.setCell ⟨E.fb T, 4, none⟩ (.slice (some ⟨g, 0, none⟩) ((nm T).length + 1) cap)).heap[b]? = some (.cells c t z) := fun hb h1 h2 => by
    obtain ⟨a1, a2, a3⟩ := hQ.apart hb h1 h2
    rw [h5 _ (Array.getElem?_eq_some_iff.1 hb).1 (a1 T hT) (a2 T hT) (a3 T hT)]
    exact hb
  have hmap : ∀ {b : Nat} {es : Array MapEntry} {cl : Nat}, wc.heap[b]? = some (.map es cl) → b ≠ E.cb T → (w4.setCell ⟨E.fb T, 4, none⟩ (.slice (some ⟨g, 0, none⟩) ((nm T).length + 1) cap)).heap[b]? = wc.heap[b]? := fun hb h1 => by
    refine h5 _ (Array.getElem?_eq_some_iff.1 hb).1 (fun e => ?_) h1 (fun e => ?_)
    · subst e; rw [hfn] at hb; simp [funObj] at hb
    · obtain ⟨c', hc'⟩ := own_row (hQ.cap T hT) e.symm
      rw [hb] at hc'; simp at hc'
  have hg4' : ∃ c, w4.heap[g]? = some (.cells c 53 (0, 0)) := own_row ho rfl
  have hgf : g ≠ E.fb T := fun e => by
    obtain ⟨c, hc⟩ := hg4'
    subst e
    rw [h4 _ hfl hfc hfo, hfn] at hc
    simp [funObj] at hc
  have hwz : w.heap.size ≤ wc.heap.size := hQ.below.size
  refine ⟨⟨?_, ?_, fun i hi => ?_, fun i hi => ?_, fun i hi => ?_, fun i hi => ?_, fun i hi hn => ?_, fun i hi j hj => ?_, fun i j hi hj hij => ?_⟩, ⟨?_, fun b hb h1 h2 h3 => h5 b hb (h1 T hT) (h2 T hT) (h3 T hT), fun i hi g' hg' => ?_⟩⟩
  · refine hQ.below.trans ⟨hg4.os.trans hg3.os, hg4.tape.trans hg3.tape, hg4.output.trans hg3.output, by simp [World.setCell]; omega, fun b hb => h5 b (by omega) (fun e => ?_) (fun e => ?_) (fun e => ?_)⟩
    · have := hE.fbNew T hT; omega
    · have := hE.cbNew T hT; omega
    · have := (hQ.cap T hT).lt _ e.symm; omega
  · obtain ⟨c, hc, h1, h2⟩ := hQ.ss
    exact ⟨c, hcell hc (by decide) (by decide), h1, h2⟩
  · exact hcell (hQ.scp i hi) (by decide) (by decide)
  · unfold updV
    by_cases e : i = T
    · subst e
      rw [if_pos rfl]
      have := setCell_same w4 (E.fb i) 4 (.slice (some ⟨g, 0, none⟩) ((nm i).length + 1) cap) _ 46 ((h4 _ hfl hfc hfo).trans hfn)
      rw [this]
      rfl
    · rw [if_neg e, h5 _ (Array.getElem?_eq_some_iff.1 (hQ.fn i hi)).1 (fun e' => e (hE.fbInj i T hi hT e')) (fun e' => ?_) (fun e' => ?_)]
      · exact hQ.fn i hi
      · have := hQ.fn i hi; rw [e', hcm] at this; simp [funObj] at this
      · obtain ⟨c', hc'⟩ := own_row (hQ.cap T hT) e'.symm
        rw [hQ.fn i hi] at hc'; simp [funObj] at hc'
  · by_cases e : i = T
    · subst e
      have e1 : updV cv i (.slice (some ⟨g, 0, none⟩) ((nm i).length + 1) cap) i = .slice (some ⟨g, 0, none⟩) ((nm i).length + 1) cap := by simp [updV]
      rw [e1, Pl.add1_at _ _ _ hnew, Pl.caps_add1_at hI hnew hv, flatC_snoc, List.length_append]
      refine own_old ho fun b hb => ?_
      obtain rfl : g = b := by simpa [Value.ownBlock] using hb
      exact Below.heap_setCell _ _ _ _ hgf
    · have e1 : updV cv T (.slice (some ⟨g, 0, none⟩) ((nm T).length + 1) cap) i = cv i := by simp [updV, e]
      rw [e1, Pl.add1_other _ _ _ e, Pl.caps_add1_other hI hnew e]
      refine own_old (hQ.cap i hi) fun b hb => ?_
      obtain ⟨c, hc⟩ := own_row (hQ.cap i hi) hb
      refine h5 b (Array.getElem?_eq_some_iff.1 hc).1 (fun e' => ?_) (fun e' => ?_) (fun e' => ?_)
      · subst e'; rw [hfn] at hc; simp [funObj] at hc
      · subst e'; rw [hcm] at hc; simp at hc
      · rcases hQ.rows i T hi hT e with h | h
        · rw [hb] at h; cases h
        · exact h (hb.trans e')
  · by_cases e : i = T
    · subst e
      rw [Pl.add1_at _ _ _ hnew, Pl.caps_add1_at hI hnew hv, List.length_append]
      have hnc : Pl.capOf E.lk nm i k ∉ Pl.caps E.lk nm i := fun h => hnew ((Pl.mem_caps hE.inj hI hk hv).1 h)
      rw [capIdx_snoc _ _ hnc, Pl.caps_length]
      refine hM.of_block ?_
      rw [Below.heap_setCell _ _ _ _ (Ne.symm hfc), hg4.block _ (by simp; omega) hco]
      exact Below.heap_alloc _ _ _ (by simp; omega)
    · rw [Pl.add1_other _ _ _ e, Pl.caps_add1_other hI hnew e]
      obtain ⟨es, cl, hb⟩ := (hQ.cmap i hi).block
      exact (hQ.cmap i hi).of_block (hmap hb (fun e' => e (hE.cbInj i T hi hT e')))
  · obtain ⟨cs, h1, h2⟩ := hQ.brow i hi hn
    exact ⟨cs, hcell h1 (by decide) (by decide), h2⟩
  · obtain ⟨n, hm⟩ := hQ.bmap i hi j hj
    obtain ⟨es, cl, hb⟩ := hm.block
    exact ⟨n, hm.of_block (hmap hb (Ne.symm (hE.cbmb T i j hT hi hj)))⟩
  · have hfr : ∀ j', j' < E.N → j' ≠ T → (cv j').ownBlock = none ∨ (cv j').ownBlock ≠ some g := fun j' hj' hne => by
      rcases hloc with h | h
      · rw [h]; exact hQ.rows j' T hj' hT hne
      · right
        intro e'
        have := ((hQ.cap j' hj').lt _ e').2
        omega
    have e1 : (updV cv T (.slice (some ⟨g, 0, none⟩) ((nm T).length + 1) cap) T).ownBlock = some g := by simp [updV, Value.ownBlock]
    by_cases ei : i = T
    · subst ei
      have e2 : updV cv i (.slice (some ⟨g, 0, none⟩) ((nm i).length + 1) cap) j = cv j := by simp [updV, Ne.symm hij]
      rw [e1, e2]
      rcases hfr j hj (Ne.symm hij) with h | h
      · right; rw [h]; simp
      · right; exact fun e' => h e'.symm
    · have e2 : updV cv T (.slice (some ⟨g, 0, none⟩) ((nm T).length + 1) cap) i = cv i := by simp [updV, ei]
      by_cases ej : j = T
      · subst ej
        rw [e1, e2]
        exact hfr i hi hij
      · have e3 : updV cv T (.slice (some ⟨g, 0, none⟩) ((nm T).length + 1) cap) j = cv j := by simp [updV, ej]
        rw [e2, e3]
        exact hQ.rows i j hi hj hij
  · simp [World.setCell]; omega
  · by_cases e : i = T
    · subst e
      have e1 : (updV cv i (.slice (some ⟨g, 0, none⟩) ((nm i).length + 1) cap) i).ownBlock = some g := by simp [updV, Value.ownBlock]
      rw [e1] at hg'
      cases hg'
      rcases hloc with h | h
      · exact .inl h.symm
      · right; omega
    · have e1 : updV cv T (.slice (some ⟨g, 0, none⟩) ((nm T).length + 1) cap) i = cv i := by simp [updV, e]
      rw [e1] at hg'
      exact .inl hg'

end Go.Proofs.YbulkaqqFmt
