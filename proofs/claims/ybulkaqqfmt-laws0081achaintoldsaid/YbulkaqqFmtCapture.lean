import Derived.Test.YbulkaqqFmtAdd
import Derived.Deep.DeepCutAuto
import Derived.Deep.RegionHeld3
import Derived.Deep.QuietTactic
import Derived.BigQuiet
import Derived.WalkSmall
namespace Go.Proofs.YbulkaqqFmt
open Go.RowKit Go.Maps

theorem Ybaf.info53 : (Ybaf.prog.info? 53).map (fun i => (i.zero, i.size, i.bytes)) = some (some (.agg #[.bool false, .int .i64 0]), 2, 16) := by kernel_rfl

def nameObj (k : Nat) : Obj := .cells #[.int .i64 0, .int .i64 0, .string (nameS k)] 39

/-- What 'capture' hands back first. -/
def capRes (lk : Nat → Nat → Option Nat) (t k : Nat) (nm : Nat → List Nat) : Nat := if (Pl.res lk t k).isSome then (Pl.after lk t k nm t).idxOf k else 0

theorem cell_two (W : World) (a b : Value) (t : TypeId) (k : Nat) (h : W.heap[k]? = some (.cells #[a, b] t (0, 0))) : ∀ j u, [a, b][j]? = some u → W.cell? ((⟨k, 0, none⟩ : Addr).add j) = some u := by
  intro j u hj
  have hadd : (⟨k, 0, none⟩ : Addr).add j = ⟨k, j, none⟩ := by unfold Addr.add; split <;> simp_all
  rw [hadd]
  simp only [World.cell?, h]
  simpa using hj

/-- Behind the 'if' that finds out which variable is meant: c is written. -/
structure Mid (E : Env) (w w1 wc : World) (t k : Nat) (nm nm1 : Nat → List Nat) (cv cv1 : Nat → Value) : Prop where
  inv : Pl.Inv E.lk nm1
  q : Q E w wc nm1 cv1
  keep : Keep E cv cv1 w1 wc
  valid : Pl.Valid E.lk nm1 (t + 1) k
  blk : wc.heap[w1.heap.size]? = some (.cells #[.bool (Pl.capOf E.lk nm1 (t + 1) k).1, .int .i64 ((Pl.capOf E.lk nm1 (t + 1) k).2 : Int)] 53)
  nms : Pl.add1 nm1 (t + 1) k = Pl.after E.lk (t + 1) k nm
  found : (Pl.res E.lk (t + 1) k).isSome = true

theorem capOf_local {lk : Nat → Nat → Option Nat} {nm : Nat → List Nat} {t k s : Nat} (h : lk t k = some s) : Pl.capOf lk nm (t + 1) k = (true, s) := by simp [Pl.capOf, h]
theorem capOf_deep {lk : Nat → Nat → Option Nat} {nm : Nat → List Nat} {t k : Nat} (h : lk t k = none) : Pl.capOf lk nm (t + 1) k = (false, (nm t).idxOf k) := by simp [Pl.capOf, h]
theorem after_local {lk : Nat → Nat → Option Nat} {nm : Nat → List Nat} {t k s : Nat} (h : lk t k = some s) : Pl.after lk (t + 1) k nm = Pl.add1 nm (t + 1) k := by simp [Pl.after, h]
theorem after_deep {lk : Nat → Nat → Option Nat} {nm : Nat → List Nat} {t k : Nat} (h : lk t k = none) (h2 : (Pl.res lk t k).isSome = true) : Pl.after lk (t + 1) k nm = Pl.add1 (Pl.after lk t k nm) (t + 1) k := by
  cases e : Pl.res lk t k with
  | none => rw [e] at h2; cases h2
  | some p => simp [Pl.after, h, e]

section
variable {E : Env} {w w1 : World} {t k : Nat} {nm : Nat → List Nat} {cv : Nat → Value}

theorem mid_local (hI : Pl.Inv E.lk nm) (hQ : Q E w w1 nm cv) {s : Nat} (hs : E.lk t k = some s) (q : Nat) :
    Mid E w w1 ((((w1.alloc (.cells #[.bool false, .int .i64 0] 53)).drewN q).setCell ⟨w1.heap.size, 0, none⟩ (.bool true)).setCell ⟨w1.heap.size, 1, none⟩ (.int .i64 (s : Int))) t k nm nm cv cv := by
  have hb : Below w1.heap.size w1 ((((w1.alloc (.cells #[.bool false, .int .i64 0] 53)).drewN q).setCell ⟨w1.heap.size, 0, none⟩ (.bool true)).setCell ⟨w1.heap.size, 1, none⟩ (.int .i64 (s : Int))) :=
    ((below_drewN ((Below.refl _ _).alloc (Nat.le_refl _) _) q).setCell (Nat.le_refl _) _).setCell (Nat.le_refl _) _
  refine ⟨hI, hQ.on hb, (Keep.refl _ _ _).below hb, .inl (by show E.lk t k ≠ none; rw [hs]; simp), ?_, (after_local hs).symm, by rw [res_some hs]; rfl⟩
  have h0 : ((w1.alloc (.cells #[.bool false, .int .i64 0] 53)).drewN q).heap[w1.heap.size]? = some (.cells #[.bool false, .int .i64 0] 53) := heap_alloc_new w1 _
  rw [setCell_same _ _ _ _ _ _ (setCell_same _ _ _ _ _ _ h0), capOf_local hs]
  rfl

/-- c's own block behind the inner call. -/
theorem c_block (hQ : Q E w w1 nm cv) {q : Nat} {w2 : World} {cv2 : Nat → Value} (hK : Keep E cv cv2 ((w1.alloc (.cells #[.bool false, .int .i64 0] 53)).drewN q) w2) : w2.heap[w1.heap.size]? = some (.cells #[.bool false, .int .i64 0] 53) := by
  obtain ⟨a1, a2, a3⟩ := hQ.fresh (Nat.le_refl _)
  rw [hK.row w1.heap.size (by simp) a1 a2 a3]
  exact heap_alloc_new w1 _

theorem keep_inner {q : Nat} {w2 : World} {cv2 : Nat → Value} (hK : Keep E cv cv2 ((w1.alloc (.cells #[.bool false, .int .i64 0] 53)).drewN q) w2) : Keep E cv cv2 w1 w2 := (((Keep.refl E cv w1).alloc _).drewN q).trans hK

theorem mid_deep (hI : Pl.Inv E.lk nm) (hk : k < 5) (hQ : Q E w w1 nm cv) {q : Nat} {w2 : World} {cv2 : Nat → Value} (hn : E.lk t k = none) (hr : (Pl.res E.lk t k).isSome = true) (hQ2 : Q E w w2 (Pl.after E.lk t k nm) cv2)
    (hK : Keep E cv cv2 ((w1.alloc (.cells #[.bool false, .int .i64 0] 53)).drewN q) w2) :
    Mid E w w1 ((w2.setCell ⟨w1.heap.size, 0, none⟩ (.bool false)).setCell ⟨w1.heap.size, 1, none⟩ (.int .i64 (capRes E.lk t k nm : Int))) t k nm (Pl.after E.lk t k nm) cv cv2 := by
  have hb := c_block hQ hK
  have hlt : w1.heap.size < w2.heap.size := (Array.getElem?_eq_some_iff.1 hb).1
  have hset : ∀ b, b ≠ w1.heap.size → ((w2.setCell ⟨w1.heap.size, 0, none⟩ (.bool false)).setCell ⟨w1.heap.size, 1, none⟩ (.int .i64 (capRes E.lk t k nm : Int))).heap[b]? = w2.heap[b]? := fun b h1 => by
    rw [Below.heap_setCell _ _ _ _ h1, Below.heap_setCell _ _ _ _ h1]
  obtain ⟨a1, a2, a3⟩ := hQ.fresh (Nat.le_refl w1.heap.size)
  have a3' : ∀ i, i < E.N → some w1.heap.size ≠ (cv2 i).ownBlock := fun i hi e => by
    rcases hK.own i hi _ e.symm with h | h
    · exact a3 i hi h.symm
    · simp at h; omega
  have hwz : w.heap.size ≤ w1.heap.size := hQ.below.size
  obtain ⟨p, hp⟩ : ∃ p, Pl.res E.lk t k = some p := Option.isSome_iff_exists.1 hr
  obtain ⟨a, s⟩ := p
  have hat := Pl.res_lt t k a s hp
  refine ⟨hI.after t k hk, ⟨?_, ?_, fun i hi => ?_, fun i hi => ?_, fun i hi => ?_, fun i hi => ?_, fun i hi hn => ?_, fun i hi j hj => ?_, hQ2.rows⟩, ?_, .inr (Pl.mem_after hp hat.1 (Nat.le_refl _)), ?_, (after_deep hn hr).symm, by rw [res_step hn]; exact hr⟩
  · refine hQ2.below.trans ⟨rfl, rfl, rfl, by simp [World.setCell], fun b hb' => hset b (by omega)⟩
  · obtain ⟨c, hc, r⟩ := hQ2.ss
    exact ⟨c, by rw [hset _ (fun e => by rw [e, hb] at hc; simp at hc)]; exact hc, r⟩
  · rw [hset _ (fun e => by have := hQ2.scp i hi; rw [e, hb] at this; simp [scpObj] at this)]; exact hQ2.scp i hi
  · rw [hset _ (a1 i hi).symm]; exact hQ2.fn i hi
  · exact own_old (hQ2.cap i hi) fun b hb' => hset b (fun e => a3' i hi (by rw [hb', e]))
  · exact (hQ2.cmap i hi).of_block (hset _ (a2 i hi).symm)
  · obtain ⟨cs, h1, h2⟩ := hQ2.brow i hi hn
    exact ⟨cs, by rw [hset _ (fun e => by rw [e, hb] at h1; simp at h1)]; exact h1, h2⟩
  · obtain ⟨n, hm⟩ := hQ2.bmap i hi j hj
    obtain ⟨es, cl, hbm⟩ := hm.block
    exact ⟨n, hm.of_block (hset _ (fun e => by rw [e, hb] at hbm; simp at hbm))⟩
  · have hK1 := keep_inner hK
    exact ⟨by have := hK1.size; simp [World.setCell]; omega, fun b hb' h1 h2 h3 => by rw [hset b (by omega)]; exact hK1.row b hb' h1 h2 h3, hK1.own⟩
  · rw [setCell_same _ _ _ _ _ _ (setCell_same _ _ _ _ _ _ hb), capOf_deep hn]
    simp [capRes, hr]
end

def CapSaid (E : Env) (w : World) (t : Nat) : Prop :=
  ∀ (k : Nat), k < 5 → ∀ (w1 : World) (nm : Nat → List Nat) (cv : Nat → Value) (np : Nat), Pl.Inv E.lk nm → Q E w w1 nm cv → w1.heap[np]? = some (nameObj k) →
    Calls Ybaf.prog 9 #[.pointer (some ⟨E.sb t, 0, none⟩), .pointer (some ⟨np, 0, none⟩)] w1 fun e w' =>
      e = .returned (.tuple #[.int .i64 (capRes E.lk t k nm : Int), .bool (Pl.res E.lk t k).isSome, .nilIface]) ∧ ∃ cv', Q E w w' (Pl.after E.lk t k nm) cv' ∧ Keep E cv cv' w1 w'

theorem capOf_ok {E : Env} {base : Nat} (hE : EOk E base) {nm : Nat → List Nat} (hI : Pl.Inv E.lk nm) (i k : Nat) : capOk (Pl.capOf E.lk nm i k) := by
  unfold Pl.capOf capOk
  cases h : E.lk (i - 1) k with
  | some s => have := hE.slB _ _ _ h; simp only; omega
  | none =>
    have h1 := hI.le5 (i - 1)
    have h2 := List.idxOf_le_length (l := nm (i - 1)) (a := k)
    simp only
    omega

theorem look_cap {w : World} {b n : Nat} {f : Bool × Nat → Option Nat} (h : MapIs Ybaf.prog 53 capLit capOk w b n f) {c : Bool × Nat} (hc : capOk c) :
    (Instr.lookup 49 (.map (some b)) (.agg #[.bool c.1, .int .i64 (c.2 : Int)]) true).run Ybaf.prog w = .ok (.tuple #[.int .i64 (((f c).getD 0 : Nat) : Int), .bool (f c).isSome]) w :=
  h.look capKeyed Ybaf.underlying49 Ybaf.underlying3 zero3 hc (capKey c hc)

theorem store_cap {w : World} {b n : Nat} {f : Bool × Nat → Option Nat} (h : MapIs Ybaf.prog 53 capLit capOk w b n f) {c : Bool × Nat} (hc : capOk c) (hf : f c = none) (hn : n ≤ 2000) :
    ∃ w', (Instr.mapUpdate 49 (.map (some b)) (.agg #[.bool c.1, .int .i64 (c.2 : Int)]) (.int .i64 (n : Int))).run Ybaf.prog w = .ok () w' ∧ MapIs Ybaf.prog 53 capLit capOk w' b (n + 1) (fun c' => if c' = c then some n else f c') ∧ w.grownBy w' (some b) ∧ w.mapTurned w' b :=
  h.store capKeyed Ybaf.underlying49 Ybaf.underlying3 hc (capKey c hc) (by simp only [maxLen]; omega) hf (by omega) (cap_inj hc)

/-- Behind the store into the captures map: the cells that the rest reads. -/
theorem up_facts {E : Env} {w w1 wc w3 : World} {t k : Nat} {nm nm1 : Nat → List Nat} {cv cv1 : Nat → Value} (hM : Mid E w w1 wc t k nm nm1 cv cv1) (ht : t + 1 < E.N) {cl : Bool} {ci : Nat} (hc : Pl.capOf E.lk nm1 (t + 1) k = (cl, ci))
    {ao : Option Addr} {cc : Nat} (hcv : cv1 (t + 1) = .slice ao (nm1 (t + 1)).length cc) {q : Nat} (hg : (wc.drewN q).grownBy w3 (some (E.cb (t + 1)))) :
    w3.cell? ⟨E.sb (t + 1), 0, none⟩ = some (.pointer (some ⟨E.fb (t + 1), 0, none⟩)) ∧ w3.cell? ⟨E.fb (t + 1), 4, none⟩ = some (.slice ao (nm1 (t + 1)).length cc) ∧ w3.frozen? ⟨E.fb (t + 1), 4, none⟩ = false ∧
      w3.cell? ⟨w1.heap.size, 0, none⟩ = some (.bool cl) ∧ w3.cell? ⟨w1.heap.size, 1, none⟩ = some (.int .i64 (ci : Int)) ∧ E.fb (t + 1) < w3.heap.size ∧ E.sb (t + 1) < w3.heap.size ∧ w1.heap.size < w3.heap.size := by
  obtain ⟨es, cm, hcm⟩ := (hM.q.cmap (t + 1) ht).block
  have ho : ∀ (b : Nat) (c : Array Value) (ty : TypeId), wc.heap[b]? = some (.cells c ty (0, 0)) → w3.heap[b]? = some (.cells c ty (0, 0)) := fun b c ty hb => by
    rw [hg.block b (Array.getElem?_eq_some_iff.1 hb).1 (fun e => by cases e; rw [hcm] at hb; cases hb)]
    exact hb
  have h1 := ho _ _ _ (hM.q.scp (t + 1) ht)
  have h2 := ho _ _ _ (hM.q.fn (t + 1) ht)
  have h3 := ho _ _ _ hM.blk
  rw [hcv] at h2
  rw [hc] at h3
  refine ⟨?_, ?_, ?_, ?_, ?_, (Array.getElem?_eq_some_iff.1 h2).1, (Array.getElem?_eq_some_iff.1 h1).1, (Array.getElem?_eq_some_iff.1 h3).1⟩ <;> simp [World.cell?, World.frozen?, h1, h2, h3]

/-- Behind the append of the new capture, ahead of the store: the pieces that 'cap_done' wants, and the cells that the store wants. -/
structure Apnd (E : Env) (w w1 wc w3 w4 : World) (t k : Nat) (nm1 : Nat → List Nat) (cv1 : Nat → Value) (g cap : Nat) : Prop where
  q : Q E w (w4.setCell ⟨E.fb (t + 1), 4, none⟩ (.slice (some ⟨g, 0, none⟩) ((nm1 (t + 1)).length + 1) cap)) (Pl.add1 nm1 (t + 1) k) (updV cv1 (t + 1) (.slice (some ⟨g, 0, none⟩) ((nm1 (t + 1)).length + 1) cap))
  keep : Keep E cv1 (updV cv1 (t + 1) (.slice (some ⟨g, 0, none⟩) ((nm1 (t + 1)).length + 1) cap)) wc (w4.setCell ⟨E.fb (t + 1), 4, none⟩ (.slice (some ⟨g, 0, none⟩) ((nm1 (t + 1)).length + 1) cap))
  cell : ∃ v, w4.cell? ⟨E.fb (t + 1), 4, none⟩ = some v
  froz : w4.frozen? ⟨E.fb (t + 1), 4, none⟩ = false

/-- The append of 'capture', as one step of its region. -/
theorem step_cap {ops : Array Oper} {o : Oper} {a : Act} {K : Act → World → Prop} {Qx : Exit → Act → World → Prop} {X : Prop} (hg : o.guard = none)
    (hop : o.op = Op.call { callee := Callee.builtin Builtin.append, args := #[.tmp 99, .tmp 101], argTypes := #[42, 42] })
    {E : Env} {w w1 wc w3 : World} {t k : Nat} {nm nm1 : Nat → List Nat} {cv cv1 : Nat → Value} (HE : Hid (EOk E w.heap.size)) (HM : Hid (Mid E w w1 wc t k nm nm1 cv cv1)) (ht : t + 1 < E.N) (hk : k < 5) {cl : Bool} {ci : Nat} (HC : Hid (Pl.capOf E.lk nm1 (t + 1) k = (cl, ci)))
    {ao : Option Addr} {cc : Nat} (HCV : Hid (cv1 (t + 1) = .slice ao (nm1 (t + 1)).length cc)) {q : Nat} (HG3 : Hid ((wc.drewN q).grownBy w3 (some (E.cb (t + 1))))) (HMem : Hid (¬ k ∈ nm1 (t + 1)))
    (HM3 : Hid (MapIs Ybaf.prog 53 capLit capOk w3 (E.cb (t + 1)) ((nm1 (t + 1)).length + 1) (fun c' => if c' = (cl, ci) then some (nm1 (t + 1)).length else capIdx (Pl.caps E.lk nm1 (t + 1)) c')))
    (q2 : Nat) (hs : a.eval (.tmp 99) = .slice ao (nm1 (t + 1)).length cc) (hx : a.eval (.tmp 101) = .slice (some ⟨w3.heap.size, 0, none⟩) 1 1)
    (hK : ∀ g cap w4, Hid (Apnd E w w1 wc w3 w4 t k nm1 cv1 g cap) → (∃ v, w4.cell? ⟨E.fb (t + 1), 4, none⟩ = some v) → w4.frozen? ⟨E.fb (t + 1), 4, none⟩ = false → w4.cell? ⟨E.sb (t + 1), 0, none⟩ = some (.pointer (some ⟨E.fb (t + 1), 0, none⟩)) → K (a.put o.dst (.slice (some ⟨g, 0, none⟩) ((nm1 (t + 1)).length + 1) cap)) w4) :
    if Region.wanted o (yielded ops a.tmps) = true then Oper.wp Ybaf.prog o a ((w3.drewN q2).alloc (.cells #[.bool cl, .int .i64 (ci : Int)] 53)) K Qx else X := by
  obtain ⟨i0, hi, hz0, hz1, hz2⟩ := info_parts Ybaf.info53
  have hw : Region.wanted o (yielded ops a.tmps) = true := by simp [Region.wanted, hg]
  rw [if_pos hw]
  have hM := HM.out
  have hcap := hM.q.cap (t + 1) ht
  rw [HCV.out] at hcap
  obtain ⟨es, cm, hcm⟩ := (hM.q.cmap (t + 1) ht).block
  have h5 := hM.inv.le5 (t + 1)
  have hz3 : wc.heap.size ≤ w3.heap.size := HG3.out.size
  have hwz := hM.q.below.size
  have hown : ((w3.drewN q2).alloc (.cells #[.bool cl, .int .i64 (ci : Int)] 53)).ownsRow w.heap.size 53 2 (.slice ao (nm1 (t + 1)).length cc) (nm1 (t + 1)).length (flatC (Pl.caps E.lk nm1 (t + 1))) := by
    refine own_old hcap fun b hb => ?_
    obtain ⟨c', hc'⟩ := own_row hcap hb
    have hlt : b < wc.heap.size := (Array.getElem?_eq_some_iff.1 hc').1
    refine (Below.heap_alloc _ _ b (by simp; omega)).trans ?_
    exact HG3.out.block b hlt (fun e => by cases e; rw [hcm] at hc'; cases hc')
  have hnew : ((w3.drewN q2).alloc (.cells #[.bool cl, .int .i64 (ci : Int)] 53)).heap[w3.heap.size]? = some (.cells #[.bool cl, .int .i64 (ci : Int)] 53) := heap_alloc_new (w3.drewN q2) _
  obtain ⟨v', w4, hrun, r1, r2, _, r4⟩ := run_append_own_at (P := Ybaf.prog) ((w3.drewN q2).alloc (.cells #[.bool cl, .int .i64 (ci : Int)] 53)) w.heap.size 42 o.type 53 i0 _ 2 16 Ybaf.underlying42 hi hz0 hz1 hz2 rfl (by decide) _ _ _ hown
    ⟨w3.heap.size, 0, none⟩ 1 1 [.bool cl, .int .i64 (ci : Int)] rfl (cell_two _ _ _ 53 _ hnew) (by intro u hu; simp at hu; rcases hu with rfl | rfl <;> rfl) (by simp only [maxLen]; omega) (by omega) (by simp; omega)
  have hv : ∃ g cap, v' = .slice (some ⟨g, 0, none⟩) ((nm1 (t + 1)).length + 1) cap := by
    rcases r1.2 with ⟨_, h⟩ | ⟨g, cap, cur, h, _⟩
    · omega
    · exact ⟨g, cap, h⟩
  obtain ⟨g, cap, rfl⟩ := hv
  have hloc : some g = (cv1 (t + 1)).ownBlock ∨ g = w3.heap.size + 1 := by
    rw [HCV.out]
    rcases r4 with h | h
    · exact .inl h
    · right; simpa [Value.ownBlock] using h
  have hM3 := HM3.out
  rw [← HC.out] at hM3
  have hf2 : (cl : Bool) = (Pl.capOf E.lk nm1 (t + 1) k).1 ∧ ci = (Pl.capOf E.lk nm1 (t + 1) k).2 := by rw [HC.out]; exact ⟨rfl, rfl⟩
  rw [hf2.1, hf2.2] at r1
  rw [← HCV.out] at r2
  obtain ⟨d1, d2⟩ := cap_done HE.out hM.q hM.inv ht hk HMem.out hM.valid hM3 HG3.out r1 r2 hloc
  have hfn := hM.q.fn (t + 1) ht
  have hfl : E.fb (t + 1) < wc.heap.size := (Array.getElem?_eq_some_iff.1 hfn).1
  have hf4 : w4.heap[E.fb (t + 1)]? = some (funObj (cv1 (t + 1))) := by
    rw [r2.block _ (by simp; omega) (fun e => by obtain ⟨c', hc'⟩ := own_row (hM.q.cap (t + 1) ht) e.symm; rw [hfn] at hc'; simp [funObj] at hc')]
    refine (Below.heap_alloc _ _ _ (by simp; omega)).trans ?_
    exact (HG3.out.block _ hfl (fun e => by
      have e' : E.fb (t + 1) = E.cb (t + 1) := by simpa using e
      rw [e', hcm] at hfn
      simp [funObj] at hfn)).trans hfn
  have hsn := hM.q.scp (t + 1) ht
  have hsl : E.sb (t + 1) < wc.heap.size := (Array.getElem?_eq_some_iff.1 hsn).1
  have hs4 : w4.heap[E.sb (t + 1)]? = wc.heap[E.sb (t + 1)]? := by
    rw [r2.block _ (by simp; omega) (fun e => by obtain ⟨c', hc'⟩ := own_row (hM.q.cap (t + 1) ht) e.symm; rw [hsn] at hc'; simp [scpObj] at hc')]
    refine (Below.heap_alloc _ _ _ (by simp; omega)).trans ?_
    exact HG3.out.block _ hsl (fun e => by
      have e' : E.sb (t + 1) = E.cb (t + 1) := by simpa using e
      rw [e', hcm] at hsn
      simp [scpObj] at hsn)
  rw [hsn] at hs4
  unfold Oper.wp
  simp [execOp, hop, resolve, invoke, builtin, hs, hx, hrun, Result.andThen]
  exact hK g cap w4 ⟨d1, d2, ⟨cv1 (t + 1), by simp [World.cell?, hf4, funObj]⟩, by simp [World.frozen?, hf4, funObj]⟩ ⟨cv1 (t + 1), by simp [World.cell?, hf4, funObj]⟩ (by simp [World.frozen?, hf4, funObj]) (by simp [World.cell?, hs4, scpObj])

theorem cap_end {E : Env} {w w1 wc w3 w4 : World} {t k : Nat} {nm nm1 : Nat → List Nat} {cv cv1 : Nat → Value} {g cap : Nat} (hM : Mid E w w1 wc t k nm nm1 cv cv1) (hA : Apnd E w w1 wc w3 w4 t k nm1 cv1 g cap) (hmem : ¬ k ∈ nm1 (t + 1)) :
    (Ending.returned (.tuple #[.int .i64 ((nm1 (t + 1)).length : Int), .bool true, .nilIface]) = .returned (.tuple #[.int .i64 (capRes E.lk (t + 1) k nm : Int), .bool (Pl.res E.lk (t + 1) k).isSome, .nilIface])) ∧
      ∃ cv', Q E w (w4.setCell ⟨E.fb (t + 1), 4, none⟩ (.slice (some ⟨g, 0, none⟩) ((nm1 (t + 1)).length + 1) cap)) (Pl.after E.lk (t + 1) k nm) cv' ∧ Keep E cv cv' w1 (w4.setCell ⟨E.fb (t + 1), 4, none⟩ (.slice (some ⟨g, 0, none⟩) ((nm1 (t + 1)).length + 1) cap)) := by
  have hn := hM.nms
  refine ⟨?_, _, hn ▸ hA.q, hM.keep.trans hA.keep⟩
  simp only [capRes, hM.found, ← hn, Pl.add1_at _ _ _ hmem, if_true]
  rw [List.idxOf_append, if_neg hmem]
  simp

set_option maxHeartbeats 400000 in
theorem capture_zero {E : Env} {w : World} (h0 : 0 < E.N) : CapSaid E w 0 := by
  intro k hk w1 nm cv np hI hQ hnp
  have c1 : w1.cell? ⟨E.sb 0, 1, none⟩ = some (.pointer none) := by simp [World.cell?, hQ.scp 0 h0, scpObj, Env.outer]
  go_enter Ybaf.func9, Ybaf.ntmps9
  go_wp2
  go_ret3
  exact ⟨rfl, cv, hQ, Keep.refl _ _ _⟩

set_option maxHeartbeats 6400000 in
set_option maxRecDepth 100000 in
theorem capture_succ {E : Env} {w : World} (hE : EOk E w.heap.size) (t : Nat) (ht : t + 1 < E.N) (ih : CapSaid E w t) : CapSaid E w (t + 1) := by
  intro k hk w1 nm cv np hI hQ hnp
  have IH := hide ih
  clear ih
  have c0 : w1.cell? ⟨E.sb (t + 1), 0, none⟩ = some (.pointer (some ⟨E.fb (t + 1), 0, none⟩)) := by simp [World.cell?, hQ.scp (t + 1) ht, scpObj]
  have c1 : w1.cell? ⟨E.sb (t + 1), 1, none⟩ = some (.pointer (some ⟨E.sb t, 0, none⟩)) := by simp [World.cell?, hQ.scp (t + 1) ht, scpObj, Env.outer]
  have n2 : w1.cell? ⟨np, 2, none⟩ = some (.string (nameS k)) := by simp [World.cell?, hnp, nameObj]
  have bnp : np < w1.heap.size := (Array.getElem?_eq_some_iff.1 hnp).1
  have bsb : E.sb (t + 1) < w1.heap.size := (Array.getElem?_eq_some_iff.1 (hQ.scp (t + 1) ht)).1
  obtain ⟨ns, hns⟩ : ∃ ns, nameS k = ns := ⟨_, rfl⟩
  obtain ⟨bv, sv, hbv, hsv, hlk⟩ : ∃ (bv : Bool) (sv : Nat), (E.lk t k).isSome = bv ∧ (E.lk t k).getD 0 = sv ∧ E.lk t k = (if bv = true then some sv else none) := by
    cases h : E.lk t k with
    | some s => exact ⟨true, s, rfl, rfl, rfl⟩
    | none => exact ⟨false, 0, rfl, rfl, rfl⟩
  have hQ1 := hQ.alloc (.cells #[.bool false, .int .i64 0] 53)
  have HLk0 := fun q => lookup_any hE (hQ1.drewN q) (i := t) (by omega) hk
  simp only [hbv, hsv] at HLk0
  have HLk := hide HLk0
  have HS := hide hlk
  clear HLk0 hlk hbv hsv
  have HI := hide hI
  have HQ := hide hQ
  have HE := hide hE
  have HNP := hide hnp
  rw [hns] at n2 HLk
  clear hQ hQ1 hI hE hnp
  go_enter Ybaf.func9, Ybaf.ntmps9
  go_wp2
  go_quiet ((go_at_call 12; exact Calls.quiet_of_same (unhide HLk _)))
  go_upto_if 32 with fail
  go_cut [7] from 32 to 53 (fun s7 wc => s7 = .pointer (some ⟨w1.heap.size, 0, none⟩) ∧ ∃ nm1 cv1, Hid (Mid E w w1 wc t k nm nm1 cv cv1))
  case first =>
    cases bv with
    | true =>
      go_wp2_with fail
      go_meet
      exact ⟨rfl, nm, cv, mid_local HI.out HQ.out HS.out nq⟩
    | false =>
      have hcall := IH.out k hk ((w1.alloc (.cells #[.bool false, .int .i64 0] 53)).drewN nq) nm cv np HI.out ((HQ.out.alloc _).drewN nq) ((Below.heap_alloc _ _ _ bnp).trans HNP.out)
      obtain ⟨ov, hov⟩ : ∃ ov, capRes E.lk t k nm = ov := ⟨_, rfl⟩
      obtain ⟨rb, hrb⟩ : ∃ rb, (Pl.res E.lk t k).isSome = rb := ⟨_, rfl⟩
      rw [hov, hrb] at hcall
      have HC := hide hcall
      have HV := hide hov
      have HR := hide hrb
      clear hcall hov hrb
      go_wp2_with fail
      refine HC.out.mono ?_
      rintro e w2 ⟨rfl, cv2, hQ2, hK2⟩
      have hcb := c_block HQ.out hK2
      have d0 : w2.cell? ⟨w1.heap.size, 0, none⟩ = some (.bool false) := by simp [World.cell?, hcb]
      have d1 : w2.cell? ⟨w1.heap.size, 1, none⟩ = some (.int .i64 0) := by simp [World.cell?, hcb]
      have f0 : w2.frozen? ⟨w1.heap.size, 0, none⟩ = false := by simp [World.frozen?, hcb]
      have f1 : w2.frozen? ⟨w1.heap.size, 1, none⟩ = false := by simp [World.frozen?, hcb]
      have HQ2 := hide hQ2
      have HK2 := hide hK2
      clear hcb hQ2 hK2 HC
      cases rb with
      | true =>
        go_wp2_with fail
        go_meet
        exact ⟨rfl, _, cv2, HV.out ▸ mid_deep HI.out hk HQ.out HS.out HR.out HQ2.out HK2.out⟩
      | false =>
        go_wp2_with fail
        go_ret3
        have hr0 : Pl.res E.lk t k = none := Option.isSome_eq_false_iff.1 HR.out |> fun h => by simpa using h
        have hr1 : Pl.res E.lk (t + 1) k = none := by rw [res_step HS.out]; exact hr0
        have hq := HQ2.out
        rw [Pl.after_none t k hr0] at hq
        exact ⟨by simp [capRes, hr1], cv2, by rw [Pl.after_none (t + 1) k hr1]; exact hq, keep_inner HK2.out⟩
  case rest =>
    obtain ⟨rfl, nm1, cv1, HM⟩ := hcut
    clear HLk HS IH c0 c1 n2 HNP HI HQ
    have hM := HM.out
    have hQ1 := hM.q
    obtain ⟨cl, ci, hc⟩ : ∃ cl ci, Pl.capOf E.lk nm1 (t + 1) k = (cl, ci) := ⟨_, _, rfl⟩
    have hblk := hM.blk
    rw [hc] at hblk
    have hok : capOk (cl, ci) := by
      rw [← hc]
      exact capOf_ok HE.out hM.inv (t + 1) k
    have x0 : wc.cell? ⟨w1.heap.size, 0, none⟩ = some (.bool cl) := by simp [World.cell?, hblk]
    have x1 : wc.cell? ⟨w1.heap.size, 1, none⟩ = some (.int .i64 (ci : Int)) := by simp [World.cell?, hblk]
    have s0 : wc.cell? ⟨E.sb (t + 1), 0, none⟩ = some (.pointer (some ⟨E.fb (t + 1), 0, none⟩)) := by simp [World.cell?, hQ1.scp (t + 1) ht, scpObj]
    have s4 : wc.cell? ⟨E.sb (t + 1), 4, none⟩ = some (.map (some (E.cb (t + 1)))) := by simp [World.cell?, hQ1.scp (t + 1) ht, scpObj]
    have hlook := fun q => look_cap ((hQ1.drewN q).cmap (t + 1) ht) hok
    obtain ⟨ao, cc, hcv⟩ := own_slice (hQ1.cap (t + 1) ht)
    have f4 : wc.cell? ⟨E.fb (t + 1), 4, none⟩ = some (.slice ao (nm1 (t + 1)).length cc) := by simp [World.cell?, hQ1.fn (t + 1) ht, funObj, hcv]
    have h5 := hM.inv.le5 (t + 1)
    by_cases hmem : k ∈ nm1 (t + 1)
    · have hci : capIdx (Pl.caps E.lk nm1 (t + 1)) (cl, ci) = some ((nm1 (t + 1)).idxOf k) := by
        rw [← hc, capIdx, if_pos ((Pl.mem_caps HE.out.inj hM.inv hk hM.valid).2 hmem), Pl.idxOf_caps HE.out.inj hM.inv hk hM.valid]
      rw [hci] at hlook
      simp only [Option.getD_some, Option.isSome_some] at hlook
      have HMem := hide hmem
      clear hM hQ1 hc hblk hci hmem hcv
      go_wp2
      go_quiet (fail)
      go_wp2
      go_ret3
      have hn := HM.out.nms
      rw [Pl.add1_same _ _ _ HMem.out] at hn
      refine ⟨?_, cv1, ?_, ?_⟩
      · simp [capRes, HM.out.found, ← hn]
      · rw [← hn]; exact HM.out.q.drewN _
      · exact HM.out.keep.drewN _
    · have hci : capIdx (Pl.caps E.lk nm1 (t + 1)) (cl, ci) = none := by
        rw [← hc, capIdx, if_neg (fun h => hmem ((Pl.mem_caps HE.out.inj hM.inv hk hM.valid).1 h))]
      rw [hci] at hlook
      simp only [Option.getD_none, Option.isSome_none] at hlook
      have hst := fun q => store_cap ((hQ1.drewN q).cmap (t + 1) ht) hok hci (by omega)
      have HMem := hide hmem
      have HST := hide hst
      have HC := hide hc
      have HCV := hide hcv
      clear hM hQ1 hc hblk hci hmem hst hcv
      have h256 : (((nm1 (t + 1)).length : Int) == 256) = false := by simp; omega
      go_wp2
      go_quiet (fail)
      go_wp2
      obtain ⟨w3, hup, hM3, hg3, _⟩ := HST.out (nq + 1)
      obtain ⟨y1, y2, y3, y4, y5, y6, y7, y8⟩ := up_facts HM.out ht HC.out HCV.out hg3
      have HM3 := hide hM3
      have HG3 := hide hg3
      clear hM3 hg3 HST hlook
      go_region
      go_wp2
      clear hup s0 s4 x0 x1 f4
      go_region_law (refine step_cap rfl rfl HE HM ht hk HC HCV HG3 HMem HM3 1 (by simp [Act.eval]) (by simp [Act.eval]) ?_; intro g cap w4 HA hcl hfr hsc; obtain ⟨vv, hvv⟩ := hcl)
      all_goals go_wp2
      all_goals go_ret3
      all_goals exact cap_end HM.out HA.out HMem.out

theorem capture_any {E : Env} {w : World} (hE : EOk E w.heap.size) : ∀ t, t < E.N → CapSaid E w t
  | 0, h => capture_zero h
  | t + 1, h => capture_succ hE t h (capture_any hE t (by omega))

end Go.Proofs.YbulkaqqFmt
