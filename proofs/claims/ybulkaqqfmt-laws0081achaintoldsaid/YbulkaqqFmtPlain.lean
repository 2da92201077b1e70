/- The plain law: no Go in sight. A scope is a number; 'lk i k': the slot of name k among scope i's own blocks; 'nm i': the names that scope i has captured, in order. -/
namespace Go.Proofs.YbulkaqqFmt.Pl

/-- Where name k is bound around scope t: the nearest scope below t, and its slot there. -/
def res (lk : Nat → Nat → Option Nat) : Nat → Nat → Option (Nat × Nat)
  | 0, _ => none
  | t + 1, k => match lk t k with
    | some s => some (t, s)
    | none => res lk t k

/-- The capture that scope i makes for name k. -/
def capOf (lk : Nat → Nat → Option Nat) (nm : Nat → List Nat) (i k : Nat) : Bool × Nat :=
  match lk (i - 1) k with
  | some s => (true, s)
  | none => (false, (nm (i - 1)).idxOf k)

def caps (lk : Nat → Nat → Option Nat) (nm : Nat → List Nat) (i : Nat) : List (Bool × Nat) := (nm i).map (capOf lk nm i)

def add1 (nm : Nat → List Nat) (i k : Nat) : Nat → List Nat := fun j => if j = i then (if k ∈ nm i then nm i else nm i ++ [k]) else nm j

/-- The names behind 'capture' of name k at scope t. -/
def after (lk : Nat → Nat → Option Nat) : Nat → Nat → (Nat → List Nat) → Nat → List Nat
  | 0, _, nm => nm
  | t + 1, k, nm => match lk t k with
    | some _ => add1 nm (t + 1) k
    | none => match res lk t k with
      | some _ => add1 (after lk t k nm) (t + 1) k
      | none => nm

structure Inv (lk : Nat → Nat → Option Nat) (nm : Nat → List Nat) : Prop where
  nodup : ∀ i, (nm i).Nodup
  lt5 : ∀ i, ∀ k ∈ nm i, k < 5
  zero : nm 0 = []
  chain : ∀ i, ∀ k ∈ nm (i + 1), lk i k = none → k ∈ nm i

def SlotInj (lk : Nat → Nat → Option Nat) : Prop := ∀ i k k' s, k < 5 → k' < 5 → lk i k = some s → lk i k' = some s → k = k'

/-- Scope i + 1 may capture k: scope i binds it, or has captured it. -/
def Valid (lk : Nat → Nat → Option Nat) (nm : Nat → List Nat) (i k : Nat) : Prop := lk (i - 1) k ≠ none ∨ k ∈ nm (i - 1)

variable {lk : Nat → Nat → Option Nat} {nm : Nat → List Nat}

theorem idxOf_inj {l : List Nat} {a b : Nat} (ha : a ∈ l) (hb : b ∈ l) (h : l.idxOf a = l.idxOf b) : a = b := by
  have h1 := List.getElem_idxOf (List.idxOf_lt_length_of_mem ha)
  have h2 := List.getElem_idxOf (List.idxOf_lt_length_of_mem hb)
  rw [← h1, ← h2]
  simp only [h]

theorem capOf_inj (hs : SlotInj lk) {i k k' : Nat} (hk : k < 5) (hk' : k' < 5) (h : Valid lk nm i k) (h' : Valid lk nm i k') (e : capOf lk nm i k = capOf lk nm i k') : k = k' := by
  unfold capOf at e
  cases h1 : lk (i - 1) k with
  | some s =>
    cases h2 : lk (i - 1) k' with
    | some s' =>
      rw [h1, h2] at e
      simp at e
      subst e
      exact hs _ _ _ _ hk hk' h1 h2
    | none => rw [h1, h2] at e; simp at e
  | none =>
    cases h2 : lk (i - 1) k' with
    | some s' => rw [h1, h2] at e; simp at e
    | none =>
      rw [h1, h2] at e
      simp only [Prod.mk.injEq, true_and] at e
      rcases h with h | h
      · exact absurd h1 h
      · rcases h' with h' | h'
        · exact absurd h2 h'
        · exact idxOf_inj h h' e

theorem Inv.valid (h : Inv lk nm) {i k : Nat} (hk : k ∈ nm i) : Valid lk nm i k := by
  cases i with
  | zero => rw [h.zero] at hk; simp at hk
  | succ i =>
    by_cases e : lk i k = none
    · exact .inr (h.chain i k hk e)
    · exact .inl e

theorem mem_caps (hs : SlotInj lk) (h : Inv lk nm) {i k : Nat} (hk : k < 5) (hv : Valid lk nm i k) : capOf lk nm i k ∈ caps lk nm i ↔ k ∈ nm i := by
  unfold caps
  constructor
  · intro hm
    obtain ⟨k', hk', e⟩ := List.mem_map.1 hm
    have := capOf_inj hs (h.lt5 i k' hk') hk (h.valid hk') hv e
    subst this
    exact hk'
  · exact fun hm => List.mem_map.2 ⟨k, hm, rfl⟩

theorem idxOf_map {f : Nat → Bool × Nat} {k : Nat} : ∀ (l : List Nat), (∀ k' ∈ l, f k' = f k → k' = k) → (l.map f).idxOf (f k) = l.idxOf k
  | [], _ => rfl
  | a :: l, h => by
    rw [List.map_cons, List.idxOf_cons, List.idxOf_cons, idxOf_map l (fun k' hk' => h k' (List.mem_cons_of_mem _ hk'))]
    by_cases e : a = k
    · subst e; simp
    · have e1 : (a == k) = false := by simpa using e
      have e2 : (f a == f k) = false := by
        have : f a ≠ f k := fun e' => e (h a (by simp) e')
        simpa using this
      rw [e1, e2]

theorem idxOf_caps (hs : SlotInj lk) (h : Inv lk nm) {i k : Nat} (hk : k < 5) (hv : Valid lk nm i k) : (caps lk nm i).idxOf (capOf lk nm i k) = (nm i).idxOf k := by
  unfold caps
  exact idxOf_map (nm i) (fun k' hk' e => capOf_inj hs (h.lt5 i k' hk') hk (h.valid hk') hv e)

theorem caps_length (i : Nat) : (caps lk nm i).length = (nm i).length := by simp [caps]

theorem nodup_bound : ∀ (n : Nat) (l : List Nat), l.Nodup → (∀ k ∈ l, k < n) → l.length ≤ n
  | 0, l, _, h => by
    cases l with
    | nil => simp
    | cons a l => exact absurd (h a (by simp)) (Nat.not_lt_zero _)
  | n + 1, l, hd, h => by
    have h1 := nodup_bound n (l.erase n) (hd.erase n) (fun k hk => by
      have h2 := h k (List.mem_of_mem_erase hk)
      have h3 : k ≠ n := fun e => by
        subst e
        exact (List.Nodup.not_mem_erase hd) hk
      omega)
    have h2 : l.length ≤ (l.erase n).length + 1 := by
      rw [List.length_erase]
      split <;> omega
    omega

theorem Inv.le5 (h : Inv lk nm) (i : Nat) : (nm i).length ≤ 5 := nodup_bound 5 _ (h.nodup i) (h.lt5 i)

theorem add1_same (nm : Nat → List Nat) (i k : Nat) (h : k ∈ nm i) : add1 nm i k = nm := by
  funext j
  unfold add1
  by_cases e : j = i
  · subst e; simp [h]
  · simp [e]
theorem add1_at (nm : Nat → List Nat) (i k : Nat) (h : k ∉ nm i) : add1 nm i k i = nm i ++ [k] := by simp [add1, h]
theorem add1_other (nm : Nat → List Nat) (i k : Nat) {j : Nat} (h : j ≠ i) : add1 nm i k j = nm j := by simp [add1, h]
theorem mem_add1 (nm : Nat → List Nat) (i k : Nat) : k ∈ add1 nm i k i := by
  unfold add1
  by_cases h : k ∈ nm i <;> simp [h]
theorem mem_add1_of (nm : Nat → List Nat) (i k : Nat) {j k' : Nat} (h : k' ∈ nm j) : k' ∈ add1 nm i k j := by
  unfold add1
  by_cases e : j = i
  · subst e
    by_cases h2 : k ∈ nm j <;> simp [h2, h]
  · simp [e, h]

theorem idxOf_snoc {l : List Nat} {a b : Nat} (h : a ∈ l) : (l ++ [b]).idxOf a = l.idxOf a := by
  rw [List.idxOf_append]
  simp [h]

theorem capOf_add1 {i k j k' : Nat} (h : k ∉ nm i) (hv : Valid lk nm j k') : capOf lk (add1 nm i k) j k' = capOf lk nm j k' := by
  unfold capOf
  cases h1 : lk (j - 1) k' with
  | some s => rfl
  | none =>
    by_cases e : j - 1 = i
    · rcases hv with hv | hv
      · exact absurd h1 hv
      · rw [e] at hv ⊢
        rw [add1_at _ _ _ h, idxOf_snoc hv]
    · rw [add1_other _ _ _ e]

theorem caps_add1_other (hI : Inv lk nm) {i k j : Nat} (h : k ∉ nm i) (hj : j ≠ i) : caps lk (add1 nm i k) j = caps lk nm j := by
  unfold caps
  rw [add1_other _ _ _ hj]
  exact List.map_congr_left fun k' hk' => capOf_add1 h (hI.valid hk')

theorem caps_add1_at (hI : Inv lk nm) {i k : Nat} (h : k ∉ nm i) (hv : Valid lk nm i k) : caps lk (add1 nm i k) i = caps lk nm i ++ [capOf lk nm i k] := by
  unfold caps
  rw [add1_at _ _ _ h, List.map_append]
  congr 1
  · exact List.map_congr_left fun k' hk' => capOf_add1 h (hI.valid hk')
  · simp [capOf_add1 h hv]

theorem Inv.add1 (hI : Inv lk nm) {i k : Nat} (hk : k < 5) (hv : Valid lk nm (i + 1) k) : Inv lk (add1 nm (i + 1) k) := by
  by_cases h : k ∈ nm (i + 1)
  · rw [add1_same _ _ _ h]; exact hI
  · refine ⟨fun j => ?_, fun j k' hk' => ?_, ?_, fun j k' hk' hn => ?_⟩
    · by_cases e : j = i + 1
      · subst e
        rw [add1_at _ _ _ h]
        exact List.nodup_append.2 ⟨hI.nodup _, by simp, fun a ha b hb => by simp at hb; subst hb; exact fun e => h (e ▸ ha)⟩
      · rw [add1_other _ _ _ e]; exact hI.nodup j
    · by_cases e : j = i + 1
      · subst e
        rw [add1_at _ _ _ h] at hk'
        rcases List.mem_append.1 hk' with h1 | h1
        · exact hI.lt5 _ _ h1
        · simp at h1; subst h1; exact hk
      · rw [add1_other _ _ _ e] at hk'; exact hI.lt5 j k' hk'
    · rw [add1_other _ _ _ (by omega)]; exact hI.zero
    · by_cases e : j + 1 = i + 1
      · rw [e] at hk'
        obtain rfl : j = i := by omega
        rw [add1_other _ _ _ (by omega)]
        rw [add1_at _ _ _ h] at hk'
        rcases List.mem_append.1 hk' with h1 | h1
        · exact hI.chain j k' h1 hn
        · simp at h1; subst h1
          rcases hv with hv | hv
          · exact absurd hn hv
          · exact hv
      · rw [add1_other _ _ _ e] at hk'
        exact mem_add1_of _ _ _ (hI.chain j k' hk' hn)

theorem res_lt : ∀ (t k a s : Nat), res lk t k = some (a, s) → a < t ∧ lk a k = some s
  | 0, k, a, s, h => by simp [res] at h
  | t + 1, k, a, s, h => by
    unfold res at h
    cases e : lk t k with
    | some s' =>
      rw [e] at h
      simp at h
      obtain ⟨rfl, rfl⟩ := h
      exact ⟨by omega, e⟩
    | none =>
      rw [e] at h
      have := res_lt t k a s h
      exact ⟨by omega, this.2⟩

theorem res_none : ∀ (t k a s : Nat), res lk t k = some (a, s) → ∀ j, a < j → j < t → lk j k = none
  | 0, k, a, s, h => by simp [res] at h
  | t + 1, k, a, s, h => by
    intro j hj hjt
    unfold res at h
    cases e : lk t k with
    | some s' =>
      rw [e] at h
      simp at h
      omega
    | none =>
      rw [e] at h
      by_cases ej : j = t
      · subst ej; exact e
      · exact res_none t k a s h j hj (by omega)

theorem after_none (t k : Nat) (h : res lk t k = none) : after lk t k nm = nm := by
  cases t with
  | zero => rfl
  | succ t =>
    unfold res at h
    unfold after
    cases e : lk t k with
    | some s => rw [e] at h; simp at h
    | none =>
      rw [e] at h
      simp only at h ⊢
      rw [h]

/-- What 'capture' does to the names, in one form. -/
theorem after_at : ∀ (t k a s : Nat), res lk t k = some (a, s) → ∀ j, after lk t k nm j = if a < j ∧ j ≤ t ∧ k ∉ nm j then nm j ++ [k] else nm j
  | 0, k, a, s, h => by simp [res] at h
  | t + 1, k, a, s, h => by
    intro j
    have hr := h
    unfold res at h
    unfold after
    cases e : lk t k with
    | some s' =>
      rw [e] at h
      simp at h
      obtain ⟨rfl, rfl⟩ := h
      simp only
      unfold add1
      by_cases ej : j = t + 1
      · subst ej
        by_cases hm : k ∈ nm (t + 1) <;> simp [hm]
      · rw [if_neg ej, if_neg (by omega)]
    | none =>
      rw [e] at h
      simp only at h ⊢
      rw [h]
      simp only
      have ih := after_at t k a s h
      have hlt := (res_lt t k a s h).1
      unfold add1
      by_cases ej : j = t + 1
      · subst ej
        rw [if_pos rfl, ih (t + 1), if_neg (show ¬ (a < t + 1 ∧ t + 1 ≤ t ∧ _) by omega)]
        by_cases hm : k ∈ nm (t + 1)
        · simp [hm]
        · rw [if_neg hm, if_pos ⟨by omega, Nat.le_refl _, hm⟩]
      · rw [if_neg ej, ih j]
        by_cases hc : a < j ∧ j ≤ t ∧ k ∉ nm j
        · rw [if_pos hc, if_pos ⟨hc.1, by omega, hc.2.2⟩]
        · rw [if_neg hc, if_neg (fun h' => hc ⟨h'.1, by omega, h'.2.2⟩)]

theorem mem_after {t k a s : Nat} (h : res lk t k = some (a, s)) {j : Nat} (h1 : a < j) (h2 : j ≤ t) : k ∈ after lk t k nm j := by
  rw [after_at t k a s h]
  by_cases hm : k ∈ nm j
  · rw [if_neg (by simp [hm])]; exact hm
  · rw [if_pos ⟨h1, h2, hm⟩]; simp

theorem after_twice (t k : Nat) : after lk t k (after lk t k nm) = after lk t k nm := by
  cases h : res lk t k with
  | none => rw [after_none t k h]
  | some p =>
    obtain ⟨a, s⟩ := p
    funext j
    rw [after_at t k a s h j]
    by_cases hc : a < j ∧ j ≤ t
    · rw [if_neg (fun h' => h'.2.2 (mem_after h hc.1 hc.2))]
    · rw [if_neg (fun h' => hc ⟨h'.1, h'.2.1⟩)]

theorem Inv.after (hI : Inv lk nm) : ∀ (t k : Nat), k < 5 → Inv lk (after lk t k nm)
  | 0, _, _ => hI
  | t + 1, k, hk => by
    unfold Pl.after
    cases e : lk t k with
    | some s => exact hI.add1 hk (.inl (by show lk t k ≠ none; rw [e]; simp))
    | none =>
      simp only
      cases h : res lk t k with
      | none => exact hI
      | some p =>
        obtain ⟨a, s⟩ := p
        exact (hI.after t k hk).add1 hk (.inr (mem_after h (res_lt t k a s h).1 (Nat.le_refl _)))

end Go.Proofs.YbulkaqqFmt.Pl
