import Derived.Test.YbulkaqqOpenWalk
import Derived.WalkKit
import Derived.ProofKit
import Derived.OpenShut
import Derived.ShutString
import Derived.ChangeOld
import Derived.Below
import Derived.Deep.Slices
import Derived.Laws.Cover2
namespace Go.Proofs.Ybulkaqq.OpenSlot
open Go.ChangeShapes Go.WideShapes Go.ChangeAt Go.RowKit Go.Deep

theorem own : ownKnob Yba.prog.godebug = none := by kernel_rfl
theorem laidOut : laidOutB Yba.prog = true := by kernel_rfl

theorem big_walk (a0 : Option Addr) (n cap : Nat) (slot : Int) (v : Nat) (kept runs : Int) (w : World) (hn : 1024 < n) :
    Calls Yba.prog 4 #[.slice a0 n cap, .int .u64 slot, .float .f64 v, .int .i64 kept, .int .i64 runs] w fun e w' => e = .returned (.bool true) ∧ Below w.heap.size w w' := by
  have hd : (1024 : Int) < (n : Int) := by omega
  go_enter Yba.func4, Yba.ntmps4
  go_wp2
  go_ret
  exact ⟨rfl, Below.refl _ _⟩

/-- What the walk is told of a slice of float64 that came in: where it has an element, its cells. -/
def IsRowF (w : World) (a : Option Addr) (len : Nat) (f : Nat → Nat) : Prop :=
  ∃ b off, (0 < len → a = some ⟨b, off, none⟩) ∧ (0 < len → b < w.heap.size) ∧ ∀ i, i < len → w.cell? ⟨b, off + i, none⟩ = some (.float .f64 (f i))

theorem isRowF_of {H : Type} {enc : TypeId × Value → H} {P : Program} {w : World} {t e : TypeId} {fuel : Nat} {a : Option Addr} {len cap : Nat} {x : DataW H × List MemPlace} (ht : P.underlying t = some (.slice e)) (he : P.underlying e = some (.float .f64)) (hc : P.cellsOf e = 1)
    (h : DataW.trod enc P w 0 (fun _ => true) true fuel t [.slice a len cap] = some x) : ∃ f, IsRowF w a len f := by
  rcases open_slice1 ht hc h with ⟨hcs, _⟩ | ⟨ad, l, c, m, q, V, D, Pl, hcs, _, hl, hm, hmm, _, hx⟩
  · simp at hcs
    obtain ⟨rfl, rfl, rfl⟩ := hcs
    exact ⟨fun _ => 0, 0, 0, fun h => absurd h (Nat.lt_irrefl _), fun h => absurd h (Nat.lt_irrefl _), fun i hi => absurd hi (Nat.not_lt_zero _)⟩
  · simp at hcs
    obtain ⟨rfl, rfl, rfl⟩ := hcs
    simp only [if_true] at hmm
    have hV : ∀ i, i < len → ∃ b : Nat, w.cell? (ad.add i) = some (.float .f64 b) := by
      intro i hi
      obtain ⟨h1, h2⟩ := hx i (by omega)
      match q, h2 with
      | 0, h2 => simp [DataW.trod] at h2
      | q + 1, h2 =>
        cases hv : V i with
        | float k b =>
          rw [hv] at h2 h1
          by_cases hk : k = .f64
          · subst hk; exact ⟨b, h1⟩
          · simp [DataW.trod, he, hk] at h2
        | _ => rw [hv] at h2; simp [DataW.trod, he] at h2
    obtain ⟨f, hf⟩ := choose_lt hV
    obtain ⟨b, off, spot⟩ := ad
    by_cases h0 : 0 < len
    · have hs : spot = none := by simpa [Addr.add] using World.cell?_spot (hf 0 h0)
      subst hs
      refine ⟨f, b, off, fun _ => rfl, fun _ => ?_, fun i hi => ?_⟩
      · exact World.block_lt_of_cell? _ _ (hf 0 h0)
      · rw [← add_plain]; exact hf i hi
    · exact ⟨f, b, off, fun h => absurd h h0, fun h => absurd h h0, fun i hi => by omega⟩

theorem walk (a0 : Option Addr) (n cap : Nat) (f : Nat → Nat) (slot : Int) (v : Nat) (kept runs : Int) (w : World) (h0 : IsRowF w a0 n f) (ws : (Lit.int .u64 slot).wf = true) :
    Calls Yba.prog 4 #[.slice a0 n cap, .int .u64 slot, .float .f64 v, .int .i64 kept, .int .i64 runs] w fun e w' => e = .returned (.bool true) ∧ Below w.heap.size w w' := by
  by_cases hn : n ≤ 1024
  · obtain ⟨b, off, ha, hb, hc⟩ := h0
    exact open_walk a0 n cap f slot v kept runs w hn (bounds_u64 ws).1 b off ha hb hc
  · exact big_walk a0 n cap slot v kept runs w (by omega)

set_option maxRecDepth 100000 in
theorem lifted (os : Os) (started : os.Started) (H : Type) (enc : TypeId × Value → H) :
    ReturnsInHanded {} Yba.checked os 4 .any (Rows.lawS0081BOpenSlotSpec.pre6 enc Yba.prog Yba.f4 Rows.lawS0081BOpenSlotRow.domain false) (Rows.lawS0081BOpenSlotSpec.post enc Yba.prog Yba.f4 false true false false) := by
  refine returnsInHanded_of_change (C := Yba.checked) own started (by kernel_rfl) Yba.func4
    (ChangeSpec.witness6 (enc := enc) (C := Yba.checked) false ⟨#[], #[.slice none 0 0, .int .u64 0, .float .f64 0, .int .i64 0, .int .i64 0], []⟩ 8 (by kernel_rfl) (by kernel_rfl) (by kernel_rfl) (by kernel_rfl)) ?_
  intro W base args ds gs before hval0 hW hcnd _
  have hval : ∀ (j : Nat) t v, Yba.f4.params[j]? = some t → args[j]? = some v → Value.okWide Yba.prog W .any base t v := hval0
  have hW' := hW
  obtain ⟨p, q, hA0, hV, rfl, hfz, hnd⟩ := hW
  have hA : DataW.TrodAll enc Yba.prog W 0 (fun _ => true) true Yba.f4.params.toList args.toList ds p := hA0
  rw [Yba.params4] at hA hval
  obtain ⟨v0, vs0, d0, ds0, p0, q0, hargs, rfl, rfl, h0, r0⟩ := trodAll_cons hA
  obtain ⟨v1, vs1, d1, ds1, p1, q1, rfl, rfl, rfl, h1, r1⟩ := trodAll_cons r0
  obtain ⟨v2, vs2, d2, ds2, p2, q2, rfl, rfl, rfl, h2, r2⟩ := trodAll_cons r1
  obtain ⟨v3, vs3, d3, ds3, p3, q3, rfl, rfl, rfl, h3, r3⟩ := trodAll_cons r2
  obtain ⟨v4, vs4, d4, ds4, p4, q4, rfl, rfl, rfl, h4, r4⟩ := trodAll_cons r3
  obtain ⟨rfl, rfl, rfl⟩ := trodAll_nil r4
  obtain rfl : args = #[v0, v1, v2, v3, v4] := by cases args; simp_all
  obtain ⟨rfl, rfl⟩ := trodVars_none hV
  obtain ⟨a0, len0, cap0, rfl⟩ := okWide_slice Yba.underlying26 (hval 0 26 v0 rfl rfl)
  have k0 := h0
  have lt0 : ∀ x ∈ p0, x.block < W.heap.size := by obtain ⟨m, hm⟩ := k0; exact DataW.trod_lt m _ _ _ hm
  obtain ⟨f, w0⟩ : ∃ f, IsRowF W a0 len0 f := by
    obtain ⟨fuel, hf⟩ := h0
    exact isRowF_of Yba.underlying26 Yba.underlying27 (by kernel_rfl) (by simpa [Value.cells] using hf)
  obtain ⟨x1, rfl, rfl, rfl, w1⟩ := open_int Yba.underlying51 (hval 1 51 v1 rfl rfl) h1
  obtain ⟨x2, rfl, rfl, rfl, w2⟩ := open_float Yba.underlying27 (hval 2 27 v2 rfl rfl) h2
  obtain ⟨x3, rfl, rfl, rfl, w3⟩ := open_int Yba.underlying3 (hval 3 3 v3 rfl rfl) h3
  obtain ⟨x4, rfl, rfl, rfl, w4⟩ := open_int Yba.underlying3 (hval 4 3 v4 rfl rfl) h4
  clear hA0 hval0
  refine (walk a0 len0 cap0 f x1 x2 x3 x4 W w0 w1).mono fun e W' ⟨he, bel⟩ => ?_
  subst he
  exact ⟨_, rfl, _, _, _, [], _, [], hW', trodAll_mk1 (shut_bool Yba.underlying4 _),
    (trodAll_cons_mk (Below.trod laidOut (by kernel_rfl) (of_decide_eq_true (by kernel_rfl)) k0 bel lt0) (trodAll_cons_mk (shut_int Yba.underlying51 w1) (trodAll_cons_mk (shut_float Yba.underlying27 w2) (trodAll_cons_mk (shut_int Yba.underlying3 w3) (trodAll_cons_mk (shut_int Yba.underlying3 w4) trodAll_mk0))))),
    rfl, bel.frame _, fun h => by cases h⟩

theorem over : Rows.lawS0081BOpenSlotRow.holds Yba.pinned (OpenSpec.ofChange Rows.lawS0081BOpenSlotSpec) :=
  OpenClaim.holds_of_wide 4 Yba.f4 rfl rfl rfl rfl rfl rfl rfl ⟨rfl, rfl, rfl, rfl, rfl⟩ rfl rfl rfl rfl rfl (by kernel_rfl) Yba.func4 (by kernel_rfl)
    (of_decide_eq_true (by kernel_rfl)) (by unfold Func.isWrapper; first | (rw [if_pos (by decide +kernel)]; kernel_rfl) | (rw [if_neg (by decide +kernel)]; exact ⟨rfl, rfl⟩))
    (fun os started H enc _ => lifted os started H enc)

end Go.Proofs.Ybulkaqq.OpenSlot
namespace Go.Proofs.Ybulkaqq
theorem openSlot_proved : Rows.LawS0081BOpenSlotSaid := OpenSlot.over
end Go.Proofs.Ybulkaqq
