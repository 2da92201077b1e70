import Derived.Test.YbulkaqqFmtKeys
import Derived.Test.YbulkaqqFmtPlain
namespace Go.Proofs.YbulkaqqFmt
open Go.RowKit Go.Maps

/-- Among n blocks, from the last down: the slot of name k. -/
def lkB (mf : Nat → Nat → Option Nat) : Nat → Nat → Option Nat
  | 0, _ => none
  | n + 1, k => match mf n k with
    | some s => some s
    | none => lkB mf n k

/-- Where the scopes lie, and what their blocks bind. -/
structure Env where
  N : Nat
  SS : Nat
  sb : Nat → Nat
  fb : Nat → Nat
  cb : Nat → Nat
  nb : Nat → Nat
  bv : Nat → Value
  bg : Nat → Nat
  mb : Nat → Nat → Nat
  mf : Nat → Nat → Nat → Option Nat
  sl : Nat → Nat

def Env.lk (E : Env) (i k : Nat) : Option Nat := lkB (E.mf i) (E.nb i) k
def Env.outer (E : Env) (i : Nat) : Value := if i = 0 then .pointer none else .pointer (some ⟨E.sb (i - 1), 0, none⟩)

def funObj (cv : Value) : Obj := .cells #[.slice none 0 0, .int .i64 0, .int .i64 0, .int .i64 0, cv, .slice none 0 0, .int .i64 0, .map none] 46
def scpObj (E : Env) (i : Nat) : Obj := .cells #[.pointer (some ⟨E.fb i, 0, none⟩), E.outer i, E.bv i, .int .i64 (E.sl i : Int), .map (some (E.cb i))] 51

def flatC (l : List (Bool × Nat)) : List Value := l.flatMap fun c => [.bool c.1, .int .i64 (c.2 : Int)]
def capIdx (l : List (Bool × Nat)) (c : Bool × Nat) : Option Nat := if c ∈ l then some (l.idxOf c) else none

theorem flatC_length (l : List (Bool × Nat)) : (flatC l).length = l.length * 2 := by
  induction l with
  | nil => rfl
  | cons e es ih => simp only [flatC, List.flatMap_cons, List.length_append, List.length_cons, List.length_nil] at ih ⊢; omega
theorem flatC_snoc (l : List (Bool × Nat)) (c : Bool × Nat) : flatC (l ++ [c]) = flatC l ++ [.bool c.1, .int .i64 (c.2 : Int)] := by simp [flatC]
theorem flatC_at : ∀ (l : List (Bool × Nat)) (q : Nat) (c : Bool × Nat), l[q]? = some c → (flatC l)[q * 2]? = some (.bool c.1) ∧ (flatC l)[q * 2 + 1]? = some (.int .i64 (c.2 : Int))
  | [], q, e, h => by simp at h
  | f :: es, 0, e, h => by
    simp at h; subst h
    simp [flatC]
  | f :: es, q + 1, e, h => by
    have ih := flatC_at es q e (by simpa using h)
    have e0 : flatC (f :: es) = [.bool f.1, .int .i64 (f.2 : Int)] ++ flatC es := by simp [flatC]
    rw [e0, show (q + 1) * 2 = q * 2 + 2 by omega]
    refine ⟨?_, ?_⟩
    · rw [List.getElem?_append_right (by simp)]; simpa using ih.1
    · rw [List.getElem?_append_right (by simp)]; simpa using ih.2

theorem capIdx_snoc (l : List (Bool × Nat)) (c : Bool × Nat) (h : c ∉ l) : capIdx (l ++ [c]) = fun c' => if c' = c then some l.length else capIdx l c' := by
  funext c'
  unfold capIdx
  by_cases e : c' = c
  · subst e
    rw [if_pos (by simp), if_pos rfl, List.idxOf_append, if_neg h]
    simp
  · rw [if_neg e]
    by_cases hm : c' ∈ l
    · rw [if_pos (by simp [hm]), if_pos hm, List.idxOf_append, if_pos hm]
    · rw [if_neg (by simp [hm, e]), if_neg hm]

/-- What does not turn while captures are made. -/
structure EOk (E : Env) (base : Nat) : Prop where
  le : E.N ≤ 64
  bform : ∀ i, i < E.N → ∃ ao c, E.bv i = .slice ao (E.nb i) c ∧ (0 < E.nb i → ao = some ⟨E.bg i, 0, none⟩)
  fbInj : ∀ i j, i < E.N → j < E.N → E.fb i = E.fb j → i = j
  cbInj : ∀ i j, i < E.N → j < E.N → E.cb i = E.cb j → i = j
  cbmb : ∀ i i' j, i < E.N → i' < E.N → j < E.nb i' → E.cb i ≠ E.mb i' j
  fbNew : ∀ i, i < E.N → base ≤ E.fb i
  cbNew : ∀ i, i < E.N → base ≤ E.cb i
  inj : Pl.SlotInj E.lk
  slB : ∀ i k s, E.lk i k = some s → s < 4611686018427387904
  nbB : ∀ i, i < E.N → E.nb i < 4611686018427387904

/-- The scopes in memory, when scope i has captured the names nm i. -/
structure Q (E : Env) (w wr : World) (nm : Nat → List Nat) (cv : Nat → Value) : Prop where
  below : Below w.heap.size w wr
  ss : wr.rowIs E.SS 33 E.N (fun i => .pointer (some ⟨E.sb i, 0, none⟩))
  scp : ∀ i, i < E.N → wr.heap[E.sb i]? = some (scpObj E i)
  fn : ∀ i, i < E.N → wr.heap[E.fb i]? = some (funObj (cv i))
  cap : ∀ i, i < E.N → wr.ownsRow w.heap.size 53 2 (cv i) (nm i).length (flatC (Pl.caps E.lk nm i))
  cmap : ∀ i, i < E.N → MapIs Ybaf.prog 53 capLit capOk wr (E.cb i) (nm i).length (capIdx (Pl.caps E.lk nm i))
  brow : ∀ i, i < E.N → 0 < E.nb i → ∃ cs, wr.heap[E.bg i]? = some (.cells cs 59 (0, 0)) ∧ ∀ j, j < E.nb i → cs[j]? = some (.map (some (E.mb i j)))
  bmap : ∀ i, i < E.N → ∀ j, j < E.nb i → ∃ n, MapIs Ybaf.prog 9 nameLit nameOk wr (E.mb i j) n (E.mf i j)
  rows : ∀ i j, i < E.N → j < E.N → i ≠ j → (cv i).ownBlock = none ∨ (cv i).ownBlock ≠ (cv j).ownBlock

/-- Every block that is no Function, no captures map and no captures row of the scopes stands; a captures row is the old one or a new block. -/
structure Keep (E : Env) (cv cv' : Nat → Value) (w w' : World) : Prop where
  size : w.heap.size ≤ w'.heap.size
  row : ∀ k, k < w.heap.size → (∀ i, i < E.N → k ≠ E.fb i) → (∀ i, i < E.N → k ≠ E.cb i) → (∀ i, i < E.N → some k ≠ (cv i).ownBlock) → w'.heap[k]? = w.heap[k]?
  own : ∀ i, i < E.N → ∀ g, (cv' i).ownBlock = some g → (cv i).ownBlock = some g ∨ w.heap.size ≤ g

theorem Keep.refl (E : Env) (cv : Nat → Value) (w : World) : Keep E cv cv w w := ⟨Nat.le_refl _, fun _ _ _ _ _ => rfl, fun _ _ _ h => .inl h⟩
theorem Keep.trans {E : Env} {cv cv' cv'' : Nat → Value} {a b c : World} (h : Keep E cv cv' a b) (h' : Keep E cv' cv'' b c) : Keep E cv cv'' a c := by
  refine ⟨Nat.le_trans h.size h'.size, fun k hk h1 h2 h3 => ?_, fun i hi g hg => ?_⟩
  · rw [h'.row k (Nat.lt_of_lt_of_le hk h.size) h1 h2 (fun i hi e => ?_), h.row k hk h1 h2 h3]
    rcases h.own i hi k e.symm with h4 | h4
    · exact h3 i hi h4.symm
    · omega
  · rcases h'.own i hi g hg with h4 | h4
    · exact h.own i hi g h4
    · exact .inr (Nat.le_trans h.size h4)
theorem Keep.below {E : Env} {cv cv' : Nat → Value} {a b c : World} (h : Keep E cv cv' a b) (h' : Below b.heap.size b c) : Keep E cv cv' a c :=
  h.trans ⟨h'.size, fun k hk _ _ _ => h'.block k hk, fun _ _ _ hg => .inl hg⟩
theorem Keep.alloc {E : Env} {cv cv' : Nat → Value} {a b : World} (h : Keep E cv cv' a b) (o : Obj) : Keep E cv cv' a (b.alloc o) := h.below ((Below.refl _ _).alloc (Nat.le_refl _) o)
theorem Keep.drewN {E : Env} {cv cv' : Nat → Value} {a b : World} (h : Keep E cv cv' a b) (q : Nat) : Keep E cv cv' a (b.drewN q) := ⟨h.size, h.row, h.own⟩

theorem own_old {w W : World} {base : Nat} {e : TypeId} {size : Nat} {v : Value} {n : Nat} {xs : List Value} (h : w.ownsRow base e size v n xs) (hb : ∀ k, v.ownBlock = some k → W.heap[k]? = w.heap[k]?) : W.ownsRow base e size v n xs := by
  refine ⟨h.1, ?_⟩
  rcases h.2 with h2 | ⟨g, cap, cur, hv, hg, hh, r⟩
  · exact .inl h2
  · exact .inr ⟨g, cap, cur, hv, hg, by rw [hb g (by rw [hv]; rfl)]; exact hh, r⟩

theorem own_row {w : World} {base : Nat} {e : TypeId} {size : Nat} {v : Value} {n : Nat} {xs : List Value} (h : w.ownsRow base e size v n xs) {k : Nat} (hk : v.ownBlock = some k) : ∃ c, w.heap[k]? = some (.cells c e (0, 0)) := by
  rcases h.2 with ⟨rfl, _⟩ | ⟨g, cap, cur, rfl, _, hh, _⟩
  · simp [Value.ownBlock] at hk
  · simp [Value.ownBlock] at hk
    subst hk
    exact ⟨_, hh⟩

section
variable {E : Env} {w wr : World} {nm : Nat → List Nat} {cv : Nat → Value}

/-- Where the old blocks stand. -/
theorem Q.frame (h : Q E w wr nm cv) {W : World} (hb : Below w.heap.size wr W) (ho : ∀ k, k < wr.heap.size → W.heap[k]? = wr.heap[k]?) : Q E w W nm cv := by
  refine ⟨h.below.trans hb, h.ss.of_block (ho _ h.ss.lt), fun i hi => ?_, fun i hi => ?_, fun i hi => own_old (h.cap i hi) fun k hk => ho k ((h.cap i hi).lt k hk).2, fun i hi => (h.cmap i hi).of_block (ho _ (h.cmap i hi).lt), fun i hi hn => ?_, fun i hi j hj => ?_, h.rows⟩
  · rw [ho _ (Array.getElem?_eq_some_iff.1 (h.scp i hi)).1]; exact h.scp i hi
  · rw [ho _ (Array.getElem?_eq_some_iff.1 (h.fn i hi)).1]; exact h.fn i hi
  · obtain ⟨cs, h1, h2⟩ := h.brow i hi hn
    exact ⟨cs, by rw [ho _ (Array.getElem?_eq_some_iff.1 h1).1]; exact h1, h2⟩
  · obtain ⟨n, hm⟩ := h.bmap i hi j hj
    exact ⟨n, hm.of_block (ho _ hm.lt)⟩

theorem Q.alloc (h : Q E w wr nm cv) (o : Obj) : Q E w (wr.alloc o) nm cv :=
  h.frame ((Below.refl _ _).alloc h.below.size o) (fun _ hk => Below.heap_alloc _ _ _ hk)
theorem Q.drewN (h : Q E w wr nm cv) (q : Nat) : Q E w (wr.drewN q) nm cv := h.frame ⟨rfl, rfl, rfl, Nat.le_refl _, fun _ _ => rfl⟩ (fun _ _ => rfl)
/-- A block of another kind is none of the scopes'. -/
theorem Q.apart (h : Q E w wr nm cv) {b : Nat} {c : Array Value} {t : TypeId} {z : Nat × Nat} (hb : wr.heap[b]? = some (.cells c t z)) (h46 : t ≠ 46) (h53 : t ≠ 53) :
    (∀ i, i < E.N → b ≠ E.fb i) ∧ (∀ i, i < E.N → b ≠ E.cb i) ∧ ∀ i, i < E.N → some b ≠ (cv i).ownBlock := by
  refine ⟨fun i hi e => ?_, fun i hi e => ?_, fun i hi e => ?_⟩
  · subst e; rw [h.fn i hi] at hb; simp [funObj] at hb; exact h46 hb.2.1.symm
  · subst e
    obtain ⟨es, cl, hm⟩ := (h.cmap i hi).block
    rw [hm] at hb; simp at hb
  · obtain ⟨c', hc'⟩ := own_row (h.cap i hi) e.symm
    rw [hc'] at hb; simp at hb; exact h53 hb.2.1.symm
/-- .. and stands behind a call that keeps. -/
theorem Q.kept (h : Q E w wr nm cv) {cv' : Nat → Value} {W : World} (hK : Keep E cv cv' wr W) {b : Nat} {c : Array Value} {t : TypeId} {z : Nat × Nat} (hb : wr.heap[b]? = some (.cells c t z)) (h46 : t ≠ 46) (h53 : t ≠ 53) : W.heap[b]? = some (.cells c t z) := by
  obtain ⟨h1, h2, h3⟩ := h.apart hb h46 h53
  rw [hK.row b (Array.getElem?_eq_some_iff.1 hb).1 h1 h2 h3]
  exact hb
/-- A block from the heap's end on is none of them either. -/
theorem Q.fresh (h : Q E w wr nm cv) {b : Nat} (hb : wr.heap.size ≤ b) : (∀ i, i < E.N → b ≠ E.fb i) ∧ (∀ i, i < E.N → b ≠ E.cb i) ∧ ∀ i, i < E.N → some b ≠ (cv i).ownBlock := by
  refine ⟨fun i hi e => ?_, fun i hi e => ?_, fun i hi e => ?_⟩
  · have := (Array.getElem?_eq_some_iff.1 (h.fn i hi)).1; omega
  · have := (h.cmap i hi).lt; omega
  · have := ((h.cap i hi).lt _ e.symm).2; omega
end

end Go.Proofs.YbulkaqqFmt
