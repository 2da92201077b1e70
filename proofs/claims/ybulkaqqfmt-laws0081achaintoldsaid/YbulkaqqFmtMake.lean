import Derived.Test.YbulkaqqFmtIn
namespace Go.Proofs.YbulkaqqFmt
open Go.RowKit Go.Maps

/-! ### One block: its map, a byte after the other -/
def cnt (g : Nat → Option Nat) : Nat := (if (g 0).isSome then 1 else 0) + (if (g 1).isSome then 1 else 0) + (if (g 2).isSome then 1 else 0) + (if (g 3).isSome then 1 else 0) + (if (g 4).isSome then 1 else 0)
theorem cnt_le (g : Nat → Option Nat) : cnt g ≤ 5 := by
  have h : ∀ b : Bool, (if b = true then 1 else 0) ≤ 1 := fun b => by cases b <;> simp
  have h0 := h (g 0).isSome; have h1 := h (g 1).isSome; have h2 := h (g 2).isSome; have h3 := h (g 3).isSome; have h4 := h (g 4).isSome
  unfold cnt
  omega
theorem cnt_add {g : Nat → Option Nat} {k s : Nat} (hk : k < 5) (h : g k = none) : cnt (fun k' => if k' = k then some s else g k') = cnt g + 1 := by
  match k, hk, h with
  | 0, _, h => simp [cnt, h]; omega
  | 1, _, h => simp [cnt, h]; omega
  | 2, _, h => simp [cnt, h]; omega
  | 3, _, h => simp [cnt, h]; omega
  | 4, _, h => simp [cnt, h]

structure Byt (w2 wr : World) (m slot0 slot n : Nat) (g : Nat → Option Nat) : Prop where
  below : Below m w2 wr
  map : MapIs Ybaf.prog 9 nameLit nameOk wr m n g
  hslot : slot = slot0 + n
  hcnt : n = cnt g
  rng : ∀ k s, g k = some s → slot0 ≤ s ∧ s < slot
  inj : ∀ k k' s, g k = some s → g k' = some s → k = k'

theorem Byt.start (w : World) (slot0 : Nat) : Byt (w.alloc (.map #[] 0)) (w.alloc (.map #[] 0)) w.heap.size slot0 slot0 0 (fun _ => none) :=
  ⟨Below.refl _ _, mapIs_made w, rfl, rfl, fun _ _ h => (by cases h), fun _ _ _ h => (by cases h)⟩

theorem Byt.le {w2 wr : World} {m slot0 slot n : Nat} {g : Nat → Option Nat} (h : Byt w2 wr m slot0 slot n g) : slot ≤ slot0 + 5 := by
  have := cnt_le g
  have := h.hslot
  have := h.hcnt
  omega

theorem Byt.look {w2 wr : World} {m slot0 slot n : Nat} {g : Nat → Option Nat} (h : Byt w2 wr m slot0 slot n g) {k : Nat} (hk : k < 5) :
    (Instr.lookup 59 (.map (some m)) (.string (nameS k)) true).run Ybaf.prog wr = .ok (.tuple #[.int .i64 (((g k).getD 0 : Nat) : Int), .bool (g k).isSome]) wr := look_name h.map hk

theorem Byt.add {w2 wr : World} {m slot0 slot n : Nat} {g : Nat → Option Nat} (h : Byt w2 wr m slot0 slot n g) {k : Nat} (hk : k < 5) (hn : g k = none) (hs : slot0 < 4611686018427387904) :
    ∃ w', (Instr.mapUpdate 59 (.map (some m)) (.string (nameS k)) (.int .i64 (slot : Int))).run Ybaf.prog wr = .ok () w' ∧ Byt w2 w' m slot0 (slot + 1) (n + 1) (fun k' => if k' = k then some slot else g k') := by
  have h5 := cnt_le g
  have hc := h.hcnt
  have hsl := h.hslot
  obtain ⟨w', hrun, hm, hg, _⟩ := h.map.store nameKeyed Ybaf.underlying59 Ybaf.underlying3 (a := k) hk (nameKey k) (by simp only [maxLen]; omega) hn (x := slot) (by omega) (name_inj hk)
  refine ⟨w', hrun, ⟨?_, hm, by omega, by rw [cnt_add hk hn]; omega, fun k' s hs' => ?_, fun k1 k2 s h1 h2 => ?_⟩⟩
  · exact h.below.trans ⟨hg.os, hg.tape, hg.output, hg.size, fun b hb => hg.block b (Nat.lt_trans hb h.map.lt) (fun e => by cases e; omega)⟩
  · by_cases e : k' = k
    · simp [e] at hs'; omega
    · simp [e] at hs'
      have := h.rng k' s hs'
      omega
  · by_cases e1 : k1 = k
    · by_cases e2 : k2 = k
      · rw [e1, e2]
      · simp [e1] at h1; simp [e2] at h2
        have := h.rng k2 s h2
        omega
    · by_cases e2 : k2 = k
      · simp [e1] at h1; simp [e2] at h2
        have := h.rng k1 s h1
        omega
      · simp [e1] at h1; simp [e2] at h2
        exact h.inj k1 k2 s h1 h2

/-! ### One scope: its blocks -/
structure Scp (w1 wr : World) (prev : Value) (s f c nb : Nat) (bv : Value) (mb : Nat → Nat) (mf : Nat → Nat → Option Nat) (slot : Nat) : Prop where
  below : Below w1.heap.size w1 wr
  scp : wr.heap[s]? = some (.cells #[.pointer (some ⟨f, 0, none⟩), prev, bv, .int .i64 0, .map (some c)] 51)
  fn : wr.heap[f]? = some (funObj (.slice none 0 0))
  cmap : MapIs Ybaf.prog 53 capLit capOk wr c 0 (fun _ => none)
  own : wr.ownsRow w1.heap.size 59 1 bv nb ((List.range nb).map fun j => .map (some (mb j)))
  s0 : w1.heap.size ≤ s
  f0 : w1.heap.size ≤ f
  c0 : w1.heap.size ≤ c
  bmap : ∀ j, j < nb → w1.heap.size ≤ mb j ∧ mb j ≠ c ∧ ∃ n, MapIs Ybaf.prog 9 nameLit nameOk wr (mb j) n (mf j)
  rng : ∀ j, j < nb → ∀ k x, mf j k = some x → x < slot
  inj : ∀ j j', j < nb → j' < nb → ∀ k k' x, mf j k = some x → mf j' k' = some x → k = k'
  slotB : slot ≤ 5 * nb

theorem Scp.add {w1 wr w3 : World} {prev : Value} {s f c nb : Nat} {bv : Value} {mb : Nat → Nat} {mf : Nat → Nat → Option Nat} {slot slot' n : Nat} {g : Nat → Option Nat} (h : Scp w1 wr prev s f c nb bv mb mf slot)
    (hB : Byt (wr.alloc (.map #[] 0)) w3 wr.heap.size slot slot' n g) :
    w3.cell? ⟨s, 2, none⟩ = some bv ∧ s < w3.heap.size ∧ w1.heap.size ≤ w3.heap.size ∧ w3.ownsRow w1.heap.size 59 1 bv nb ((List.range nb).map fun j => .map (some (mb j))) ∧
      ∀ v' w5, w5.ownsRow w1.heap.size 59 1 v' (nb + 1) (((List.range nb).map fun j => .map (some (mb j))) ++ [.map (some wr.heap.size)]) → (w3.alloc (.cells #[.map (some wr.heap.size)] 59)).grownBy w5 bv.ownBlock →
        w5.cell? ⟨s, 2, none⟩ = some bv ∧ w5.frozen? ⟨s, 2, none⟩ = false ∧
        Scp w1 (w5.setCell ⟨s, 2, none⟩ v') prev s f c (nb + 1) v' (fun j => if j = nb then wr.heap.size else mb j) (fun j => if j = nb then g else mf j) slot' := by
  have hz1 := h.below.size
  have h3 : ∀ b, b < wr.heap.size → w3.heap[b]? = wr.heap[b]? := fun b hb => (hB.below.block b hb).trans (Below.heap_alloc _ _ _ hb)
  have hz3 : wr.heap.size + 1 ≤ w3.heap.size := by have := hB.below.size; simpa using this
  have hsl : s < wr.heap.size := (Array.getElem?_eq_some_iff.1 h.scp).1
  have hfl : f < wr.heap.size := (Array.getElem?_eq_some_iff.1 h.fn).1
  have hs3 := (h3 s hsl).trans h.scp
  have hown3 : w3.ownsRow w1.heap.size 59 1 bv nb ((List.range nb).map fun j => .map (some (mb j))) := own_old h.own fun k hk => h3 k ((h.own).lt k hk).2
  refine ⟨by simp [World.cell?, hs3], by omega, by omega, hown3, fun v' w5 ho hg => ?_⟩
  have hgz : w3.heap.size + 1 ≤ w5.heap.size := by have := hg.size; simpa using this
  have h5 : ∀ b, b < w3.heap.size → some b ≠ bv.ownBlock → w5.heap[b]? = w3.heap[b]? := fun b hb hne => (hg.block b (by simp; omega) hne).trans (Below.heap_alloc _ _ _ hb)
  have hso : some s ≠ bv.ownBlock := fun e => by obtain ⟨c', hc'⟩ := own_row h.own e.symm; rw [h.scp] at hc'; simp at hc'
  have hfo : some f ≠ bv.ownBlock := fun e => by obtain ⟨c', hc'⟩ := own_row h.own e.symm; rw [h.fn] at hc'; simp [funObj] at hc'
  have hs5 := (h5 s (by omega) hso).trans hs3
  have hv' : v'.ownBlock ≠ some s := fun e => by
    obtain ⟨c', hc'⟩ := own_row ho e
    rw [hs5] at hc'; simp at hc'
  have h6 : ∀ b, b ≠ s → (w5.setCell ⟨s, 2, none⟩ v').heap[b]? = w5.heap[b]? := fun b hb => Below.heap_setCell _ _ _ _ hb
  have hmapo : ∀ {b : Nat} {es : Array MapEntry} {cl : Nat}, wr.heap[b]? = some (.map es cl) → (w5.setCell ⟨s, 2, none⟩ v').heap[b]? = wr.heap[b]? := fun {b es cl} hb => by
    have hlt : b < wr.heap.size := (Array.getElem?_eq_some_iff.1 hb).1
    rw [h6 b (fun e => by rw [e, h.scp] at hb; simp at hb), h5 b (by omega) (fun e => by obtain ⟨c', hc'⟩ := own_row h.own e.symm; rw [hb] at hc'; simp at hc'), h3 b hlt]
  refine ⟨by simp [World.cell?, hs5], by simp [World.frozen?, hs5], ⟨?_, ?_, ?_, ?_, ?_, h.s0, h.f0, h.c0, fun j hj => ?_, fun j hj k x hx => ?_, fun j j' hj hj' k k' x hx hx' => ?_, ?_⟩⟩
  · have hb1 := hB.below
    refine h.below.trans ⟨hg.os.trans hb1.os, hg.tape.trans hb1.tape, hg.output.trans hb1.output, by simp [World.setCell]; omega, fun b hb => ?_⟩
    rw [h6 b (by have := h.s0; omega), h5 b (by omega) (fun e => by have := (h.own.lt b e.symm).1; omega), h3 b (by omega)]
  · rw [setCell_same _ _ _ _ _ _ hs5]; rfl
  · rw [h6 f (fun e => by have h1 := h.fn; rw [e, h.scp] at h1; simp [funObj] at h1), h5 f (by omega) hfo, h3 f hfl]; exact h.fn
  · obtain ⟨es, cl, hb⟩ := h.cmap.block
    exact h.cmap.of_block (hmapo hb)
  · have e1 : ((List.range (nb + 1)).map fun j => Value.map (some (if j = nb then wr.heap.size else mb j))) = ((List.range nb).map fun j => .map (some (mb j))) ++ [.map (some wr.heap.size)] := by
      rw [List.range_succ, List.map_append]
      congr 1
      · refine List.map_congr_left fun j hj => ?_
        have : j < nb := by simpa using hj
        rw [if_neg (by omega)]
      · simp
    rw [e1]
    exact own_old ho fun k hk => h6 k (fun e => hv' (by rw [hk, e]))
  · by_cases e : j = nb
    · subst e
      simp only [if_true]
      obtain ⟨es, cl, hb⟩ := h.cmap.block
      refine ⟨hz1, fun e => ?_, n, hB.map.of_block ?_⟩
      · have := (Array.getElem?_eq_some_iff.1 hb).1; omega
      · obtain ⟨es', cl', hb'⟩ := hB.map.block
        have hlt := (Array.getElem?_eq_some_iff.1 hb').1
        rw [h6 _ (by omega), h5 _ hlt (fun e => by have := (h.own.lt _ e.symm).2; omega)]
    · simp only [if_neg e]
      obtain ⟨a1, a2, n', hm⟩ := h.bmap j (by omega)
      obtain ⟨es, cl, hb⟩ := hm.block
      exact ⟨a1, a2, n', hm.of_block (hmapo hb)⟩
  · have hle := hB.hslot
    by_cases e : j = nb
    · simp only [if_pos e] at hx
      exact (hB.rng k x hx).2
    · simp only [if_neg e] at hx
      have := h.rng j (by omega) k x hx
      omega
  · by_cases e : j = nb
    · simp only [if_pos e] at hx
      by_cases e' : j' = nb
      · simp only [if_pos e'] at hx'
        exact hB.inj k k' x hx hx'
      · simp only [if_neg e'] at hx'
        have := h.rng j' (by omega) k' x hx'
        have := (hB.rng k x hx).1
        omega
    · simp only [if_neg e] at hx
      by_cases e' : j' = nb
      · simp only [if_pos e'] at hx'
        have := h.rng j (by omega) k x hx
        have := (hB.rng k' x hx').1
        omega
      · simp only [if_neg e'] at hx'
        exact h.inj j j' (by omega) (by omega) k k' x hx hx'
  · have := hB.le
    have := h.slotB
    omega

/-! ### The scopes -/
def Env.push (E : Env) (s f c nb : Nat) (bv : Value) (mb : Nat → Nat) (mf : Nat → Nat → Option Nat) (slot : Nat) : Env :=
  { N := E.N + 1, SS := E.SS
    sb := fun i => if i = E.N then s else E.sb i
    fb := fun i => if i = E.N then f else E.fb i
    cb := fun i => if i = E.N then c else E.cb i
    nb := fun i => if i = E.N then nb else E.nb i
    bv := fun i => if i = E.N then bv else E.bv i
    bg := fun i => if i = E.N then bv.ownBlock.getD 0 else E.bg i
    mb := fun i => if i = E.N then mb else E.mb i
    mf := fun i => if i = E.N then mf else E.mf i
    sl := fun i => if i = E.N then slot else E.sl i }

def env0 (SS : Nat) : Env := { N := 0, SS := SS, sb := fun _ => 0, fb := fun _ => 0, cb := fun _ => 0, nb := fun _ => 0, bv := fun _ => .slice none 0 0, bg := fun _ => 0, mb := fun _ _ => 0, mf := fun _ _ _ => none, sl := fun _ => 0 }

theorem lkB_mem {mf : Nat → Nat → Option Nat} {k x : Nat} : ∀ {n : Nat}, lkB mf n k = some x → ∃ j, j < n ∧ mf j k = some x
  | 0, h => by simp [lkB] at h
  | n + 1, h => by
    cases e : mf n k with
    | some y => rw [lkB_some e] at h; exact ⟨n, by omega, by rw [e, h]⟩
    | none =>
      rw [lkB_none e] at h
      obtain ⟨j, hj, hx⟩ := lkB_mem h
      exact ⟨j, by omega, hx⟩

structure Out (w wr : World) (E : Env) (SS cap : Nat) : Prop where
  below : Below w.heap.size w wr
  ok : EOk E w.heap.size
  ss : E.SS = SS
  own : wr.ownsRow w.heap.size 33 1 (.slice (some ⟨SS, 0, none⟩) E.N cap) E.N ((List.range E.N).map fun i => .pointer (some ⟨E.sb i, 0, none⟩))
  scp : ∀ i, i < E.N → wr.heap[E.sb i]? = some (scpObj E i)
  fn : ∀ i, i < E.N → wr.heap[E.fb i]? = some (funObj (.slice none 0 0))
  cmap : ∀ i, i < E.N → MapIs Ybaf.prog 53 capLit capOk wr (E.cb i) 0 (fun _ => none)
  brow : ∀ i, i < E.N → 0 < E.nb i → ∃ cs, wr.heap[E.bg i]? = some (.cells cs 59 (0, 0)) ∧ ∀ j, j < E.nb i → cs[j]? = some (.map (some (E.mb i j)))
  bmap : ∀ i, i < E.N → ∀ j, j < E.nb i → ∃ n, MapIs Ybaf.prog 9 nameLit nameOk wr (E.mb i j) n (E.mf i j)

theorem Out.start {w w' : World} {N : Nat} (ho : w'.ownsRow w.heap.size 33 1 (.slice (some ⟨w.heap.size, 0, none⟩) 0 N) 0 []) (hg : w.grownBy w' none) : Out w w' (env0 w.heap.size) w.heap.size N :=
  ⟨⟨hg.os, hg.tape, hg.output, hg.size, fun k hk => hg.block k hk (by simp)⟩,
    ⟨by simp [env0], fun i hi => absurd hi (Nat.not_lt_zero _), fun i _ hi => absurd hi (Nat.not_lt_zero _), fun i _ hi => absurd hi (Nat.not_lt_zero _), fun i _ _ hi => absurd hi (Nat.not_lt_zero _), fun i hi => absurd hi (Nat.not_lt_zero _), fun i hi => absurd hi (Nat.not_lt_zero _),
      fun i k k' s _ _ h => by simp [Env.lk, env0, lkB] at h, fun i k s h => by simp [Env.lk, env0, lkB] at h, fun i hi => absurd hi (Nat.not_lt_zero _)⟩,
    rfl, ho, fun i hi => absurd hi (Nat.not_lt_zero _), fun i hi => absurd hi (Nat.not_lt_zero _), fun i hi => absurd hi (Nat.not_lt_zero _), fun i hi => absurd hi (Nat.not_lt_zero _), fun i hi => absurd hi (Nat.not_lt_zero _)⟩

theorem push_lk (E : Env) (s f c nb : Nat) (bv : Value) (mb : Nat → Nat) (mf : Nat → Nat → Option Nat) (slot i k : Nat) : (E.push s f c nb bv mb mf slot).lk i k = if i = E.N then lkB mf nb k else E.lk i k := by
  unfold Env.lk Env.push
  by_cases e : i = E.N <;> simp [e]

/-- A scope more. -/
theorem Out.add {w wr w6 w8 : World} {E : Env} {SS cap : Nat} {s f c nb : Nat} {bv : Value} {mb : Nat → Nat} {mf : Nat → Nat → Option Nat} {slot : Nat} (h : Out w wr E SS cap) (hS : Scp wr w6 (E.outer E.N) s f c nb bv mb mf slot) (hN : E.N < 64) (hnb : nb < 100000000000000000)
    (ho : w8.ownsRow w.heap.size 33 1 (.slice (some ⟨SS, 0, none⟩) (E.N + 1) cap) (E.N + 1) (((List.range E.N).map fun i => .pointer (some ⟨E.sb i, 0, none⟩)) ++ [.pointer (some ⟨s, 0, none⟩)]))
    (hg : ((w6.setCell ⟨s, 3, none⟩ (.int .i64 (slot : Int))).alloc (.cells #[.pointer (some ⟨s, 0, none⟩)] 33)).grownBy w8 (some SS)) :
    Out w w8 (E.push s f c nb bv mb mf slot) SS cap := by
  have hwz := h.below.size
  have hz6 := hS.below.size
  have hsl : s < w6.heap.size := (Array.getElem?_eq_some_iff.1 hS.scp).1
  have hfl : f < w6.heap.size := (Array.getElem?_eq_some_iff.1 hS.fn).1
  obtain ⟨ces, ccl, hcb⟩ := hS.cmap.block
  have hcl : c < w6.heap.size := (Array.getElem?_eq_some_iff.1 hcb).1
  obtain ⟨ssc, hss⟩ := own_row h.own (k := SS) rfl
  have hSSl : SS < wr.heap.size := (Array.getElem?_eq_some_iff.1 hss).1
  have hs0 := hS.s0
  have hf0 := hS.f0
  have hc0 := hS.c0
  have h8 : ∀ b, b < w6.heap.size → b ≠ s → b ≠ SS → w8.heap[b]? = w6.heap[b]? := fun b hb h1 h2 => by
    rw [hg.block b (by simp [World.setCell]; omega) (by simpa using h2)]
    rw [Below.heap_alloc _ _ _ (by simp [World.setCell]; omega), Below.heap_setCell _ _ _ _ h1]
  have h9 : ∀ b, b < wr.heap.size → b ≠ SS → w8.heap[b]? = wr.heap[b]? := fun b hb h1 => by rw [h8 b (by omega) (by omega) h1, hS.below.block b hb]
  have hs8 : w8.heap[s]? = some (.cells #[.pointer (some ⟨f, 0, none⟩), E.outer E.N, bv, .int .i64 (slot : Int), .map (some c)] 51) := by
    rw [hg.block s (by simp [World.setCell]; omega) (by simp; omega), Below.heap_alloc _ _ _ (by simp [World.setCell]; omega), setCell_same _ _ _ _ _ _ hS.scp]
    rfl
  have hap : ∀ {b : Nat} {c' : Array Value} {t : TypeId}, wr.heap[b]? = some (.cells c' t (0, 0)) → t ≠ 33 → w8.heap[b]? = some (.cells c' t (0, 0)) := fun {b c' t} hb ht => by
    rw [h9 b (Array.getElem?_eq_some_iff.1 hb).1 (fun e => by rw [e, hss] at hb; simp at hb; exact ht hb.2.symm)]; exact hb
  have hmapo : ∀ {b : Nat} {es : Array MapEntry} {cl : Nat}, wr.heap[b]? = some (.map es cl) → w8.heap[b]? = wr.heap[b]? := fun {b es cl} hb => h9 b (Array.getElem?_eq_some_iff.1 hb).1 (fun e => by rw [e, hss] at hb; simp at hb)
  have hmap6 : ∀ {b : Nat} {es : Array MapEntry} {cl : Nat}, w6.heap[b]? = some (.map es cl) → wr.heap.size ≤ b → w8.heap[b]? = w6.heap[b]? := fun {b es cl} hb hlo => h8 b (Array.getElem?_eq_some_iff.1 hb).1 (fun e => by rw [e, hS.scp] at hb; simp at hb) (by omega)
  have hold : ∀ i, i < E.N → i ≠ E.N := fun i hi => by omega
  refine ⟨?_, ⟨?_, fun i hi => ?_, fun i j hi hj e => ?_, fun i j hi hj e => ?_, fun i i' j hi hi' hj e => ?_, fun i hi => ?_, fun i hi => ?_, fun i k k' x hk hk' h1 h2 => ?_, fun i k x h1 => ?_, fun i hi => ?_⟩, h.ss, ?_, fun i hi => ?_, fun i hi => ?_, fun i hi => ?_, fun i hi hn => ?_, fun i hi j hj => ?_⟩
  · refine h.below.trans ⟨hg.os.trans hS.below.os, hg.tape.trans hS.below.tape, hg.output.trans hS.below.output, ?_, fun b hb => h9 b (by omega) (fun e => by have := (h.own.lt b (by rw [e]; rfl)).1; omega)⟩
    have := hg.size
    simp [World.setCell] at this
    omega
  · show E.N + 1 ≤ 64
    omega
  · by_cases e : i = E.N
    · simp only [Env.push, if_pos e]
      rcases hS.own.2 with ⟨rfl, rfl⟩ | ⟨g, cap', cur, rfl, _⟩
      · exact ⟨_, _, rfl, fun h => absurd h (Nat.lt_irrefl _)⟩
      · exact ⟨_, _, rfl, fun _ => rfl⟩
    · simp only [Env.push, if_neg e]
      exact h.ok.bform i (by simp [Env.push] at hi; omega)
  · simp only [Env.push] at hi hj e
    by_cases ei : i = E.N
    · by_cases ej : j = E.N
      · omega
      · rw [if_pos ei, if_neg ej] at e
        have := (Array.getElem?_eq_some_iff.1 (h.fn j (by omega))).1
        omega
    · by_cases ej : j = E.N
      · rw [if_neg ei, if_pos ej] at e
        have := (Array.getElem?_eq_some_iff.1 (h.fn i (by omega))).1
        omega
      · rw [if_neg ei, if_neg ej] at e
        exact h.ok.fbInj i j (by omega) (by omega) e
  · simp only [Env.push] at hi hj e
    by_cases ei : i = E.N
    · by_cases ej : j = E.N
      · omega
      · rw [if_pos ei, if_neg ej] at e
        have := (h.cmap j (by omega)).lt
        omega
    · by_cases ej : j = E.N
      · rw [if_neg ei, if_pos ej] at e
        have := (h.cmap i (by omega)).lt
        omega
      · rw [if_neg ei, if_neg ej] at e
        exact h.ok.cbInj i j (by omega) (by omega) e
  · simp only [Env.push] at hi hi' hj e
    by_cases ei : i = E.N
    · by_cases ej : i' = E.N
      · rw [if_pos ej] at hj
        rw [if_pos ei, if_pos ej] at e
        exact (hS.bmap j hj).2.1 e.symm
      · rw [if_neg ej] at hj
        rw [if_pos ei, if_neg ej] at e
        obtain ⟨n, hm⟩ := h.bmap i' (by omega) j hj
        have := hm.lt
        omega
    · by_cases ej : i' = E.N
      · rw [if_pos ej] at hj
        rw [if_neg ei, if_pos ej] at e
        have := (h.cmap i (by omega)).lt
        have := (hS.bmap j hj).1
        omega
      · rw [if_neg ej] at hj
        rw [if_neg ei, if_neg ej] at e
        exact h.ok.cbmb i i' j (by omega) (by omega) hj e
  · simp only [Env.push] at hi ⊢
    by_cases e : i = E.N
    · rw [if_pos e]; omega
    · rw [if_neg e]; exact h.ok.fbNew i (by omega)
  · simp only [Env.push] at hi ⊢
    by_cases e : i = E.N
    · rw [if_pos e]; omega
    · rw [if_neg e]; exact h.ok.cbNew i (by omega)
  · rw [push_lk] at h1 h2
    by_cases e : i = E.N
    · rw [if_pos e] at h1 h2
      obtain ⟨j, hj, hx⟩ := lkB_mem h1
      obtain ⟨j', hj', hx'⟩ := lkB_mem h2
      exact hS.inj j j' hj hj' k k' x hx hx'
    · rw [if_neg e] at h1 h2
      exact h.ok.inj i k k' x hk hk' h1 h2
  · rw [push_lk] at h1
    by_cases e : i = E.N
    · rw [if_pos e] at h1
      obtain ⟨j, hj, hx⟩ := lkB_mem h1
      have := hS.rng j hj k x hx
      have := hS.slotB
      omega
    · rw [if_neg e] at h1
      exact h.ok.slB i k x h1
  · simp only [Env.push] at hi ⊢
    by_cases e : i = E.N
    · rw [if_pos e]; omega
    · rw [if_neg e]; exact h.ok.nbB i (by omega)
  · have e1 : ((List.range (E.N + 1)).map fun i => Value.pointer (some ⟨if i = E.N then s else E.sb i, 0, none⟩)) = ((List.range E.N).map fun i => .pointer (some ⟨E.sb i, 0, none⟩)) ++ [.pointer (some ⟨s, 0, none⟩)] := by
      rw [List.range_succ, List.map_append]
      congr 1
      · refine List.map_congr_left fun j hj => ?_
        have : j < E.N := by simpa using hj
        rw [if_neg (by omega)]
      · simp
    show w8.ownsRow w.heap.size 33 1 (.slice (some ⟨SS, 0, none⟩) (E.N + 1) cap) (E.N + 1) ((List.range (E.N + 1)).map fun i => Value.pointer (some ⟨if i = E.N then s else E.sb i, 0, none⟩))
    rw [e1]
    exact ho
  · have hi' : i < E.N + 1 := hi
    by_cases e : i = E.N
    · have e1 : (E.push s f c nb bv mb mf slot).sb i = s := by simp [Env.push, e]
      rw [e1, hs8]
      subst e
      by_cases e0 : E.N = 0
      · simp [scpObj, Env.push, Env.outer, e0]
      · have : E.N - 1 ≠ E.N := by omega
        simp [scpObj, Env.push, Env.outer, e0, this]
    · have e1 : (E.push s f c nb bv mb mf slot).sb i = E.sb i := by simp [Env.push, e]
      have hq := h.scp i (by omega)
      rw [e1, hap (t := 51) hq (by decide)]
      have e2 : i - 1 ≠ E.N := by omega
      simp [scpObj, Env.push, Env.outer, e, e2]
  · have hi' : i < E.N + 1 := hi
    by_cases e : i = E.N
    · have e1 : (E.push s f c nb bv mb mf slot).fb i = f := by simp [Env.push, e]
      rw [e1, h8 f hfl (fun e => by have h1 := hS.fn; rw [e, hS.scp] at h1; simp [funObj] at h1) (by omega)]
      exact hS.fn
    · have e1 : (E.push s f c nb bv mb mf slot).fb i = E.fb i := by simp [Env.push, e]
      rw [e1]
      exact hap (t := 46) (h.fn i (by omega)) (by decide)
  · have hi' : i < E.N + 1 := hi
    by_cases e : i = E.N
    · have e1 : (E.push s f c nb bv mb mf slot).cb i = c := by simp [Env.push, e]
      rw [e1]
      exact hS.cmap.of_block (hmap6 hcb hc0)
    · have e1 : (E.push s f c nb bv mb mf slot).cb i = E.cb i := by simp [Env.push, e]
      rw [e1]
      obtain ⟨es, cl, hb⟩ := (h.cmap i (by omega)).block
      exact (h.cmap i (by omega)).of_block (hmapo hb)
  · have hi' : i < E.N + 1 := hi
    by_cases e : i = E.N
    · have e1 : (E.push s f c nb bv mb mf slot).nb i = nb := by simp [Env.push, e]
      have e2 : (E.push s f c nb bv mb mf slot).bg i = bv.ownBlock.getD 0 := by simp [Env.push, e]
      have e3 : (E.push s f c nb bv mb mf slot).mb i = mb := by simp [Env.push, e]
      rw [e1] at hn ⊢
      rw [e2, e3]
      rcases hS.own.2 with ⟨_, rfl⟩ | ⟨g, cap', cur, rfl, hgb, hgc, hle, _, hsz, htk⟩
      · omega
      · refine ⟨cur, ?_, fun j hj => ?_⟩
        · show w8.heap[g]? = _
          rw [h8 g (Array.getElem?_eq_some_iff.1 hgc).1 (fun e => by rw [e, hS.scp] at hgc; simp at hgc) (by omega)]
          exact hgc
        · have h1 : (cur.toList.take (nb * 1))[j]? = some (.map (some (mb j))) := by
            rw [htk]
            simp [hj]
          rw [List.getElem?_take_of_lt (by omega)] at h1
          simpa using h1
    · have e1 : (E.push s f c nb bv mb mf slot).nb i = E.nb i := by simp [Env.push, e]
      have e2 : (E.push s f c nb bv mb mf slot).bg i = E.bg i := by simp [Env.push, e]
      have e3 : (E.push s f c nb bv mb mf slot).mb i = E.mb i := by simp [Env.push, e]
      rw [e1] at hn ⊢
      rw [e2, e3]
      obtain ⟨cs, h1, h2⟩ := h.brow i (by omega) hn
      exact ⟨cs, hap h1 (by decide), h2⟩
  · have hi' : i < E.N + 1 := hi
    by_cases e : i = E.N
    · have e1 : (E.push s f c nb bv mb mf slot).nb i = nb := by simp [Env.push, e]
      have e2 : (E.push s f c nb bv mb mf slot).mf i = mf := by simp [Env.push, e]
      have e3 : (E.push s f c nb bv mb mf slot).mb i = mb := by simp [Env.push, e]
      rw [e1] at hj
      rw [e2, e3]
      obtain ⟨a1, _, n, hm⟩ := hS.bmap j hj
      obtain ⟨es, cl, hb⟩ := hm.block
      exact ⟨n, hm.of_block (hmap6 hb a1)⟩
    · have e1 : (E.push s f c nb bv mb mf slot).nb i = E.nb i := by simp [Env.push, e]
      have e2 : (E.push s f c nb bv mb mf slot).mf i = E.mf i := by simp [Env.push, e]
      have e3 : (E.push s f c nb bv mb mf slot).mb i = E.mb i := by simp [Env.push, e]
      rw [e1] at hj
      rw [e2, e3]
      obtain ⟨n, hm⟩ := h.bmap i (by omega) j hj
      obtain ⟨es, cl, hb⟩ := hm.block
      exact ⟨n, hm.of_block (hmapo hb)⟩

/-- All scopes are there. -/
theorem Out.done {w wr : World} {E : Env} {SS : Nat} (h : Out w wr E SS E.N) : Q E w wr (fun _ => []) (fun _ => .slice none 0 0) := by
  refine ⟨h.below, ?_, h.scp, h.fn, fun i hi => ⟨rfl, .inl ⟨rfl, rfl⟩⟩, fun i hi => ?_, h.brow, h.bmap, fun _ _ _ _ _ => .inl rfl⟩
  · rcases h.own.2 with ⟨h1, _⟩ | ⟨g, cap, cur, hv, _, hh, hle, _, hsz, htk⟩
    · cases h1
    · simp at hv
      obtain ⟨rfl, rfl⟩ := hv
      refine ⟨cur, by rw [h.ss]; exact hh, by omega, fun i hi => ?_⟩
      have h1 : (cur.toList.take (E.N * 1))[i]? = some (.pointer (some ⟨E.sb i, 0, none⟩)) := by
        rw [htk]
        simp [hi]
      rw [List.getElem?_take_of_lt (by omega)] at h1
      simpa using h1
  · exact (h.cmap i hi).congr fun c _ => by simp [capIdx, Pl.caps]

end Go.Proofs.YbulkaqqFmt
