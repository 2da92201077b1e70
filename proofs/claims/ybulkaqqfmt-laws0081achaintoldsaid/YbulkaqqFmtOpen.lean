import Derived.Test.YbulkaqqFmtIn
import Derived.Deep.Slices
import Derived.SizedLaws
import Derived.ChangeSame
import Derived.OpenShut
namespace Go.Proofs.YbulkaqqFmt
open Go.RowKit Go.Deep Go.ChangeShapes

theorem u58 : ∃ f : Field, Ybaf.prog.underlying 58 = some (.struct #[f]) ∧ f.type = 56 ∧ f.offset = 0 := ⟨_, Ybaf.underlying58, rfl, rfl⟩
theorem cells58 : Ybaf.prog.cellsOf 58 = 1 := by kernel_rfl
theorem cells56 : Ybaf.prog.cellsOf 56 = 1 := by kernel_rfl
theorem cells23 : Ybaf.prog.cellsOf 23 = 1 := by kernel_rfl
theorem cells5 : Ybaf.prog.cellsOf 5 = 1 := by kernel_rfl
theorem bytes23 : Ybaf.prog.bytesOf 23 = 24 := by kernel_rfl

section
variable {H : Type} {enc : TypeId × Value → H} {P : Program} {w : World}

/-- A slice of one-cell elements, opened into its cells. -/
theorem slice_cells {t e : TypeId} {fuel : Nat} {v : Value} {x : DataW H × List MemPlace} (ht : P.underlying t = some (.slice e)) (hc : P.cellsOf e = 1) (h : DataW.trod enc P w 0 (fun _ => true) true fuel t [v] = some x) :
    ∃ (a : Option Addr) (len cap b o : Nat) (V : Nat → Value) (D : Nat → DataW H), v = .slice a len cap ∧ (0 < len → a = some ⟨b, o, none⟩) ∧ (0 < len → b < w.heap.size) ∧ len < 9223372036854775808 ∧
      (∀ i, i < len → w.cell? ⟨b, o + i, none⟩ = some (V i) ∧ ∃ n Pl, DataW.trod enc P w 0 (fun _ => true) true n e [V i] = some (D i, Pl)) ∧ (len = 0 ∨ ∃ sp, x.1 = .slice ((List.range len).map D) sp) := by
  rcases open_slice1 ht hc h with ⟨hcs, hx⟩ | ⟨ad, l, c, m, q, V, D, Pl, hcs, _, hl, hm, hmm, hxx, hx⟩
  · simp at hcs
    subst hcs
    exact ⟨none, 0, 0, 0, 0, fun _ => .nilIface, fun _ => .nil, rfl, fun h => absurd h (Nat.lt_irrefl _), fun h => absurd h (Nat.lt_irrefl _), by omega, fun i hi => absurd hi (Nat.not_lt_zero _), .inl rfl⟩
  · simp at hcs
    subst hcs
    simp only [if_true] at hmm
    obtain ⟨b, off, spot⟩ := ad
    have hlm : l < 9223372036854775808 := by simp only [maxLen] at hm; omega
    by_cases h0 : 0 < l
    · have hs : spot = none := by simpa [Addr.add] using World.cell?_spot (hx 0 (by omega)).1
      subst hs
      refine ⟨_, l, c, b, off, V, D, rfl, fun _ => rfl, fun _ => World.block_lt_of_cell? _ _ (hx 0 (by omega)).1, hlm, fun i hi => ⟨?_, q, Pl i, (hx i (by omega)).2⟩, .inr ⟨_, by rw [hxx]⟩⟩
      have e : (⟨b, off, none⟩ : Addr).add i = ⟨b, off + i, none⟩ := by simp [Addr.add]
      rw [← e]
      exact (hx i (by omega)).1
    · exact ⟨_, l, c, b, off, V, D, rfl, fun h => absurd h h0, fun h => absurd h h0, hlm, fun i hi => by omega, .inl (by omega)⟩
end

structure Bk where
  B : Option Addr
  M : Nat
  D : Nat
  bb : Nat
  bo : Nat
  x : Nat → Nat
structure Bk.Ok (k : Bk) (w : World) : Prop where
  B : 0 < k.M → k.B = some ⟨k.bb, k.bo, none⟩
  lt : 0 < k.M → k.bb < w.heap.size
  row : ∀ l, l < k.M → w.cell? ⟨k.bb, k.bo + l, none⟩ = some (.int .u8 (k.x l : Int))
  x : ∀ l, k.x l < 256
  Mb : k.M < 9223372036854775808

section
variable {H : Type} {enc : TypeId × Value → H} {w : World}

theorem bytes_open {fuel : Nat} {v : Value} {x : DataW H × List MemPlace} (h : DataW.trod enc Ybaf.prog w 0 (fun _ => true) true fuel 23 [v] = some x) : ∃ k : Bk, v = .slice k.B k.M k.D ∧ k.Ok w := by
  obtain ⟨a, len, cap, b, o, V, D, rfl, ha, hb, hlen, hV, _⟩ := slice_cells Ybaf.underlying23 cells5 h
  have hz : ∀ i, i < len → ∃ z : Nat, w.cell? ⟨b, o + i, none⟩ = some (.int .u8 (z : Int)) ∧ z < 256 := fun i hi => by
    obtain ⟨h1, n, pl, h2⟩ := hV i hi
    cases n with
    | zero => simp [DataW.trod] at h2
    | succ n =>
      cases hv : V i with
      | int k z =>
        rw [hv] at h2 h1
        simp [DataW.trod, Ybaf.underlying5] at h2
        obtain ⟨⟨rfl, hw⟩, _⟩ := h2
        have := bounds_u8 hw
        exact ⟨z.toNat, by rw [h1]; simp; omega, by omega⟩
      | _ => rw [hv] at h2; simp [DataW.trod, Ybaf.underlying5] at h2
  obtain ⟨f, hf⟩ := choose_lt hz
  refine ⟨⟨a, len, cap, b, o, fun l => if l < len then f l else 0⟩, rfl, ⟨ha, hb, fun l hl => ?_, fun l => ?_, hlen⟩⟩
  · have hl' : l < len := hl
    simp only [if_pos hl']
    exact (hf l hl').1
  · show (if l < len then f l else 0) < 256
    by_cases hl : l < len
    · rw [if_pos hl]; exact (hf l hl).2
    · rw [if_neg hl]; omega

structure Sc where
  A : Option Addr
  L : Nat
  C : Nat
  ab : Nat
  ao : Nat
  k : Nat → Bk
structure Sc.Ok (s : Sc) (w : World) : Prop where
  A : 0 < s.L → s.A = some ⟨s.ab, s.ao, none⟩
  lt : 0 < s.L → s.ab < w.heap.size
  row : ∀ j, j < s.L → w.cell? ⟨s.ab, s.ao + j, none⟩ = some (.slice (s.k j).B (s.k j).M (s.k j).D) ∧ (s.k j).Ok w

def bk0 : Bk := ⟨none, 0, 0, 0, 0, fun _ => 0⟩
def sc0 : Sc := ⟨none, 0, 0, 0, 0, fun _ => bk0⟩

theorem scope_open {fuel : Nat} {v : Value} {x : DataW H × List MemPlace} (h : DataW.trod enc Ybaf.prog w 0 (fun _ => true) true fuel 58 [v] = some x) :
    ∃ s : Sc, v = .slice s.A s.L s.C ∧ s.Ok w ∧ ((∀ n ∈ DataW.weights Ybaf.prog 58 x.1, n ≤ reachBytes) → s.L * 24 ≤ 140737488355328) := by
  obtain ⟨f, hu, hft, hfo⟩ := u58
  obtain ⟨y, n, rfl, _, hy⟩ := trod_struct1 hu h
  rw [hft, hfo, cells56] at hy
  simp only [List.drop_zero, List.take_succ_cons, List.take_zero] at hy
  obtain ⟨a, len, cap, b, o, V, D, rfl, ha, hb, hlen, hV, hd⟩ := slice_cells Ybaf.underlying56 cells23 hy
  have hk : ∀ j, j < len → ∃ k : Bk, w.cell? ⟨b, o + j, none⟩ = some (.slice k.B k.M k.D) ∧ k.Ok w := fun j hj => by
    obtain ⟨h1, n, pl, h2⟩ := hV j hj
    obtain ⟨k, e, hk⟩ := bytes_open h2
    exact ⟨k, by rw [h1, e], hk⟩
  obtain ⟨g, hg⟩ := @choose_lt Bk ⟨bk0⟩ len _ hk
  refine ⟨⟨a, len, cap, b, o, g⟩, rfl, ⟨ha, hb, hg⟩, fun hw => ?_⟩
  show len * 24 ≤ _
  rcases hd with rfl | ⟨sp, hd⟩
  · omega
  · have h1 := hw ((len + sp.length) * 24) (by
      simp only [DataW.weights, hu, DataW.weightsEach, List.map_cons, List.map_nil, hft, hd, Ybaf.underlying56, bytes23]
      simp)
    have h2 := reachBytes_lt
    have h3 : len * 24 ≤ (len + sp.length) * 24 := Nat.mul_le_mul_right _ (Nat.le_add_right _ _)
    omega

theorem weightsAll_mem {P : Program} {e : TypeId} : ∀ {l : List (DataW H)} {d : DataW H}, d ∈ l → ∀ n ∈ d.weights P e, n ∈ DataW.weightsAll P e l
  | c :: l, d, hd, n, hn => by
    simp only [DataW.weightsAll, List.mem_append]
    rcases List.mem_cons.1 hd with rfl | hd
    · exact .inl hn
    · exact .inr (weightsAll_mem hd n hn)

theorem scopes_open {fuel : Nat} {a0 : Option Addr} {len cap : Nat} {x : DataW H × List MemPlace} (h : DataW.trod enc Ybaf.prog w 0 (fun _ => true) true fuel 22 [.slice a0 len cap] = some x) (hw : ∀ n ∈ DataW.weights Ybaf.prog 22 x.1, n ≤ reachBytes) :
    ∃ I : In, I.a0 = a0 ∧ I.N = len ∧ I.cap = cap ∧ I.Ok w := by
  obtain ⟨a, len', cap', b, o, V, D, hv, ha, hb, hlen, hV, hd⟩ := slice_cells Ybaf.underlying22 cells58 h
  simp at hv
  obtain ⟨rfl, rfl, rfl⟩ := hv
  have hs : ∀ i, i < len → ∃ s : Sc, w.cell? ⟨b, o + i, none⟩ = some (.slice s.A s.L s.C) ∧ s.Ok w ∧ s.L * 24 ≤ 140737488355328 := fun i hi => by
    obtain ⟨h1, n, pl, h2⟩ := hV i hi
    obtain ⟨s, e, hs, hL⟩ := scope_open h2
    refine ⟨s, by rw [h1, e], hs, hL fun m hm => hw m ?_⟩
    rcases hd with rfl | ⟨sp, hd⟩
    · omega
    · rw [hd]
      simp only [DataW.weights, Ybaf.underlying22, List.mem_cons, List.mem_append]
      exact .inr (.inl (weightsAll_mem (List.mem_map.2 ⟨i, by simpa using hi, rfl⟩) m hm))
  obtain ⟨g, hg⟩ := @choose_lt Sc ⟨sc0⟩ len _ hs
  refine ⟨⟨a0, len, cap, b, o, fun i => (g i).A, fun i => (g i).L, fun i => (g i).C, fun i => (g i).ab, fun i => (g i).ao, fun i j => ((g i).k j).B, fun i j => ((g i).k j).M, fun i j => ((g i).k j).D, fun i j => ((g i).k j).bb, fun i j => ((g i).k j).bo, fun i j l => if i < len ∧ j < (g i).L then ((g i).k j).x l else 0⟩, rfl, rfl, rfl, ?_⟩
  refine ⟨ha, hb, fun i hi => (hg i hi).1, fun i hi => (hg i hi).2.1.A, fun i hi => (hg i hi).2.1.lt, fun i hi j hj => ((hg i hi).2.1.row j hj).1, fun i hi j hj => ((hg i hi).2.1.row j hj).2.B, fun i hi j hj => ((hg i hi).2.1.row j hj).2.lt, fun i hi j hj l hl => ?_, fun i j l => ?_, fun i hi => (hg i hi).2.2, fun i hi j hj => ((hg i hi).2.1.row j hj).2.Mb⟩
  · have h1 : i < len := hi
    have h2 : j < (g i).L := hj
    simp only [h1, h2, and_self, if_true]
    exact ((hg i hi).2.1.row j hj).2.row l hl
  · show (if i < len ∧ j < (g i).L then ((g i).k j).x l else 0) < 256
    by_cases hc : i < len ∧ j < (g i).L
    · rw [if_pos hc]; exact ((hg i hc.1).2.1.row j hc.2).2.x l
    · rw [if_neg hc]; omega

theorem queries_open {fuel : Nat} {a : Option Addr} {len cap : Nat} {x : DataW H × List MemPlace} (h : DataW.trod enc Ybaf.prog w 0 (fun _ => true) true fuel 23 [.slice a len cap] = some x) :
    ∃ (b o : Nat) (f : Nat → Nat), (0 < len → a = some ⟨b, o, none⟩) ∧ (0 < len → b < w.heap.size) ∧ (∀ l, l < len → w.cell? ⟨b, o + l, none⟩ = some (.int .u8 (f l : Int))) ∧ ∀ l, f l < 256 := by
  obtain ⟨k, hv, hk⟩ := bytes_open h
  simp at hv
  obtain ⟨rfl, rfl, rfl⟩ := hv
  exact ⟨k.bb, k.bo, k.x, hk.B, hk.lt, hk.row, hk.x⟩
end

end Go.Proofs.YbulkaqqFmt
