import Derived.Test.YbulkaqqFmtRows
import Derived.WalkKit
import Derived.WalkSpells
import Derived.Maps.OwnSet
import Derived.Deep.OwnRows
import Derived.Deep.Draws
namespace Go.Proofs.YbulkaqqFmt
open Go.RowKit Go.Maps

theorem hide {p : Prop} (h : p) : Hid p := h
theorem unhide {p : Prop} (h : Hid p) : p := h

/-! ### A map of ints, said by a plain function of its keys -/
section
variable {α : Type} {P : Program} {k : TypeId} {kl : α → Lit} {ok : α → Prop}

/-- Block b is a map of n entries that holds 'f a' at the key 'kl a', for every key that is 'ok'. -/
def MapIs (P : Program) (k : TypeId) (kl : α → Lit) (ok : α → Prop) (w : World) (b n : Nat) (f : α → Option Nat) : Prop :=
  ∃ D : DataW Unit, w.ownsMap P k (plainElem P 3) b n D ∧ Maps.size D = n ∧ ∀ a, ok a → Maps.has D (kl a) = (f a).isSome ∧ D.atKey (kl a) (.lit (.int .i64 0)) = .lit (.int .i64 (((f a).getD 0 : Nat) : Int))

theorem MapIs.of_block {w W : World} {b n : Nat} {f : α → Option Nat} (h : MapIs P k kl ok w b n f) (e : W.heap[b]? = w.heap[b]?) : MapIs P k kl ok W b n f := by
  obtain ⟨D, ⟨es, clock, hb, r⟩, rest⟩ := h
  exact ⟨D, ⟨es, clock, e.trans hb, r⟩, rest⟩

theorem MapIs.block {w : World} {b n : Nat} {f : α → Option Nat} (h : MapIs P k kl ok w b n f) : ∃ es c, w.heap[b]? = some (.map es c) := by
  obtain ⟨D, ⟨es, clock, hb, r⟩, rest⟩ := h
  exact ⟨es, clock, hb⟩

theorem MapIs.lt {w : World} {b n : Nat} {f : α → Option Nat} (h : MapIs P k kl ok w b n f) : b < w.heap.size := by
  obtain ⟨es, c, hb⟩ := h.block
  exact (Array.getElem?_eq_some_iff.1 hb).1

theorem MapIs.congr {w : World} {b n : Nat} {f g : α → Option Nat} (h : MapIs P k kl ok w b n f) (e : ∀ a, ok a → f a = g a) : MapIs P k kl ok w b n g := by
  obtain ⟨D, h1, h2, h3⟩ := h
  exact ⟨D, h1, h2, fun a ha => by rw [← e a ha]; exact h3 a ha⟩

theorem mapIs_made (w : World) : MapIs P k kl ok (w.alloc (.map #[] 0)) w.heap.size 0 (fun _ => none) :=
  ⟨.map [], World.ownsMap_made w P k _, rfl, fun _ _ => ⟨rfl, rfl⟩⟩

theorem wf_nat {x : Nat} (h : x < 9223372036854775808) : (Lit.int .i64 (x : Int)).wf = true := WalkArith.wf_i64 (by omega)

/-- 'v, ok := m[key]'. -/
theorem MapIs.look {t : TypeId} (K : Keyed P k) (ht : P.underlying t = some (.map k 3)) (h3 : P.underlying 3 = some (.int .i64)) (hz : ∀ w, (zeroValue 3).run P w = .ok (.int .i64 0) w) {w : World} {b n : Nat} {f : α → Option Nat} (h : MapIs P k kl ok w b n f) {a : α} (ha : ok a) {v : Value} (hv : keyOf P k v = some (kl a)) :
    (Instr.lookup t (.map (some b)) v true).run P w = .ok (.tuple #[.int .i64 (((f a).getD 0 : Nat) : Int), .bool (f a).isSome]) w := by
  obtain ⟨D, h1, h2, hf⟩ := h
  obtain ⟨e1, e2⟩ := hf a ha
  obtain ⟨u, ps, hrun, hu⟩ := h1.look_ok K ht (hz w) (plainElem_int h3 (by decide)) hv
  rw [e2] at hu
  obtain ⟨c, rfl, hc, _⟩ := plainElem_int_inv h3 hu
  simp only [Prod.mk.injEq, DataW.lit.injEq, Lit.int.injEq, true_and] at hc
  rw [hrun, e1, ← hc.1]

/-- 'm[key] = x' at a key that is not there. -/
theorem MapIs.store [DecidableEq α] {t : TypeId} (K : Keyed P k) (ht : P.underlying t = some (.map k 3)) (h3 : P.underlying 3 = some (.int .i64)) {w : World} {b n : Nat} {f : α → Option Nat} (h : MapIs P k kl ok w b n f) {a : α} (ha : ok a) {v : Value} (hv : keyOf P k v = some (kl a)) (hn : n < maxLen) (hnew : f a = none) {x : Nat} (hx : x < 9223372036854775808)
    (hinj : ∀ a', ok a' → kl a' = kl a → a' = a) :
    ∃ w', (Instr.mapUpdate t (.map (some b)) v (.int .i64 (x : Int))).run P w = .ok () w' ∧ MapIs P k kl ok w' b (n + 1) (fun a' => if a' = a then some x else f a') ∧ w.grownBy w' (some b) ∧ w.mapTurned w' b := by
  obtain ⟨D, h1, h2, hf⟩ := h
  obtain ⟨w', hrun, ho, hg⟩ := h1.store K ht hn hv (plainElem_int h3 (wf_nat hx))
  have hl := K.key hv
  have hno : Maps.has D (kl a) = false := by rw [(hf a ha).1, hnew]; rfl
  refine ⟨w', hrun, ⟨_, ho, ?_, fun a' ha' => ?_⟩, hg.grown, hg⟩
  · rw [Maps.size_put (h1.tidy K), hno, h2]
    simp
  · show Maps.has _ _ = (if a' = a then some x else f a').isSome ∧ _ = DataW.lit (.int .i64 ((((if a' = a then some x else f a').getD 0 : Nat)) : Int))
    by_cases e : a' = a
    · subst e
      rw [if_pos rfl, Maps.has_put_same h1.isMap hl, Maps.atKey_put_same h1.isMap hl]
      exact ⟨rfl, rfl⟩
    · have hne : kl a' ≠ kl a := fun e' => e (hinj a' ha' e')
      rw [if_neg e, Maps.has_put_other hne, Maps.atKey_put_other hne]
      exact hf a' ha'

/-- 'len(m)'. -/
theorem MapIs.len {t : TypeId} (ht : P.underlying t = some (.map k 3)) {w : World} {b n : Nat} {f : α → Option Nat} (h : MapIs P k kl ok w b n f) (ty : TypeId) : (Builtin.len_ #[t] ty #[.map (some b)]).run P w = .ok (.int .i64 (n : Int)) w := by
  obtain ⟨D, h1, h2, _⟩ := h
  rw [h1.len ht, h2]
end

end Go.Proofs.YbulkaqqFmt
