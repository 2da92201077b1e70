import Derived.Test.YbulkaqqClosedWalk
import Derived.WalkKit
import Derived.ProofKit
import Derived.OpenShut
import Derived.ShutString
import Derived.ChangeOld
import Derived.Below
import Derived.Deep.SlicePairs
import Derived.Laws.Cover2
namespace Go.Proofs.Ybulkaqq.ClosedScript
open Go.ChangeShapes Go.WideShapes Go.ChangeAt Go.RowKit Go.Deep

theorem own : ownKnob Yba.prog.godebug = none := by kernel_rfl
theorem laidOut : laidOutB Yba.prog = true := by kernel_rfl

set_option maxRecDepth 100000 in
theorem big_kepts (runs : Int) (a0 : Option Addr) (L cap0 : Nat) (sa : Option Addr) (m cap1 : Nat) (w : World) (hL : 256 < L) :
    Calls Yba.prog 3 #[.int .i64 runs, .slice a0 L cap0, .slice sa m cap1] w fun e w' => e = .returned (.bool true) ∧ Below w.heap.size w w' := by
  have hd : decide ((256 : Int) < (L : Int)) = true := by simp; omega
  go_enter Yba.func3, Yba.ntmps3
  go_wp2
  go_ret
  exact ⟨rfl, Below.refl _ _⟩

set_option maxRecDepth 100000 in
theorem big_steps (runs : Int) (a0 : Option Addr) (L cap0 : Nat) (sa : Option Addr) (m cap1 : Nat) (w : World) (hL : L ≤ 256) (hm : 1024 < m) :
    Calls Yba.prog 3 #[.int .i64 runs, .slice a0 L cap0, .slice sa m cap1] w fun e w' => e = .returned (.bool true) ∧ Below w.heap.size w w' := by
  have d1 : decide ((256 : Int) < (L : Int)) = false := by simp; omega
  have d2 : decide ((1024 : Int) < (m : Int)) = true := by simp; omega
  go_enter Yba.func3, Yba.ntmps3
  go_wp2
  go_ret
  exact ⟨rfl, Below.refl _ _⟩

/-- What the walk is told of the slice of ints that came in. -/
def IsRowI (w : World) (a : Option Addr) (len : Nat) (f : Nat → Int) : Prop :=
  ∃ b off, (0 < len → a = some ⟨b, off, none⟩) ∧ (0 < len → b < w.heap.size) ∧ ∀ i, i < len → w.cell? ⟨b, off + i, none⟩ = some (.int .i64 (f i))

theorem isRowI_of {H : Type} {enc : TypeId × Value → H} {P : Program} {w : World} {t e : TypeId} {fuel : Nat} {a : Option Addr} {len cap : Nat} {x : DataW H × List MemPlace} (ht : P.underlying t = some (.slice e)) (he : P.underlying e = some (.int .i64)) (hc : P.cellsOf e = 1)
    (h : DataW.trod enc P w 0 (fun _ => true) true fuel t [.slice a len cap] = some x) : ∃ f, IsRowI w a len f := by
  rcases open_ints ht he hc h with ⟨hcs, _⟩ | ⟨ad, l, c, zs, hcs, _, hl, hm, hz, _, hcell, _⟩
  · simp at hcs
    obtain ⟨rfl, rfl, rfl⟩ := hcs
    exact ⟨fun _ => 0, 0, 0, fun h => absurd h (Nat.lt_irrefl _), fun h => absurd h (Nat.lt_irrefl _), fun i hi => absurd hi (Nat.not_lt_zero _)⟩
  · simp at hcs
    obtain ⟨rfl, rfl, rfl⟩ := hcs
    simp only [if_true] at hz
    obtain ⟨b, off, spot⟩ := ad
    by_cases h0 : 0 < len
    · have hs : spot = none := by simpa [Addr.add] using World.cell?_spot (hcell 0 (by omega))
      subst hs
      refine ⟨fun i => zs.getD i 0, b, off, fun _ => rfl, fun _ => ?_, fun i hi => ?_⟩
      · exact World.block_lt_of_cell? _ _ (hcell 0 (by omega))
      · rw [← add_plain]; exact hcell i (by omega)
    · exact ⟨fun _ => 0, b, off, fun h => absurd h h0, fun h => absurd h h0, fun i hi => by omega⟩

/-- .. and of the slice of steps. -/
def IsSteps (w : World) (a : Option Addr) (len : Nat) (cz : Nat → Int) (nm : Nat → Nat) : Prop :=
  ∃ b off, (0 < len → a = some ⟨b, off, none⟩) ∧ (0 < len → b < w.heap.size) ∧ ∀ t, t < len → w.cell? ⟨b, off + t * 2, none⟩ = some (.int .u8 (cz t)) ∧ w.cell? ⟨b, off + t * 2 + 1, none⟩ = some (.float .f64 (nm t)) ∧ 0 ≤ cz t ∧ cz t ≤ 255

theorem float_of {H : Type} {enc : TypeId × Value → H} {P : Program} {w : World} {e : TypeId} {n : Nat} {v : Value} {y : DataW H × List MemPlace} (he : P.underlying e = some (.float .f64)) (h : DataW.trod enc P w 0 (fun _ => true) true n e [v] = some y) : ∃ b, v = .float .f64 b := by
  match n, h with
  | 0, h => simp [DataW.trod] at h
  | n + 1, h =>
    cases v with
    | float k b =>
      by_cases hk : k = .f64
      · subst hk; exact ⟨b, rfl⟩
      · simp [DataW.trod, he, hk] at h
    | _ => simp [DataW.trod, he] at h

theorem isSteps_of {H : Type} {enc : TypeId × Value → H} {P : Program} {w : World} {t e : TypeId} {f0 f1 : Field} {fuel : Nat} {a : Option Addr} {len cap : Nat} {x : DataW H × List MemPlace} (ht : P.underlying t = some (.slice e)) (he : P.underlying e = some (.struct #[f0, f1]))
    (ce : P.cellsOf e = 2) (o0 : f0.offset = 0) (o1 : f1.offset = 1) (c0 : P.cellsOf f0.type = 1) (c1 : P.cellsOf f1.type = 1) (h0 : P.underlying f0.type = some (.int .u8)) (h1 : P.underlying f1.type = some (.float .f64))
    (h : DataW.trod enc P w 0 (fun _ => true) true fuel t [.slice a len cap] = some x) : ∃ cz nm, IsSteps w a len cz nm := by
  rcases open_slice_pairs ht he ce o0 o1 c0 c1 h with ⟨hcs, _⟩ | ⟨ad, l, c, m, n, V0, V1, D0, D1, P0, P1, hcs, _, hl, hm, hmm, _, hx⟩
  · simp at hcs
    obtain ⟨rfl, rfl, rfl⟩ := hcs
    exact ⟨fun _ => 0, fun _ => 0, 0, 0, fun h => absurd h (Nat.lt_irrefl _), fun h => absurd h (Nat.lt_irrefl _), fun i hi => absurd hi (Nat.not_lt_zero _)⟩
  · simp at hcs
    obtain ⟨rfl, rfl, rfl⟩ := hcs
    simp only [if_true] at hmm
    have hV : ∀ i, i < len → ∃ q : Int × Nat, w.cell? (ad.add (i * 2)) = some (.int .u8 q.1) ∧ w.cell? (ad.add (i * 2 + 1)) = some (.float .f64 q.2) ∧ 0 ≤ q.1 ∧ q.1 ≤ 255 := by
      intro i hi
      obtain ⟨g0, g1, g2, g3⟩ := hx i (by omega)
      obtain ⟨z, e0, _, wz⟩ := DataW.trod_int h0 g2
      simp at e0
      obtain ⟨b, e1⟩ := float_of h1 g3
      rw [e0] at g0
      rw [e1] at g1
      have := bounds_u8 wz
      exact ⟨(z, b), g0, g1, this.1, this.2⟩
    obtain ⟨q, hq⟩ := choose_lt hV
    obtain ⟨b, off, spot⟩ := ad
    by_cases hl0 : 0 < len
    · have hs : spot = none := by simpa [Addr.add] using World.cell?_spot (hq 0 hl0).1
      subst hs
      refine ⟨fun i => (q i).1, fun i => (q i).2, b, off, fun _ => rfl, fun _ => ?_, fun i hi => ?_⟩
      · exact World.block_lt_of_cell? _ _ (hq 0 hl0).1
      · obtain ⟨g0, g1, g2, g3⟩ := hq i hi
        rw [add_plain] at g0 g1
        exact ⟨g0, g1, g2, g3⟩
    · exact ⟨fun _ => 0, fun _ => 0, b, off, fun h => absurd h hl0, fun h => absurd h hl0, fun i hi => by omega⟩

theorem conv_float (i : Nat) (w : World) : (convert 3 27 (.int .i64 (i : Int))).run Yba.prog w = .ok (.float .f64 (floatOfInt .f64 (i : Int))) w :=
  run_convert_int_float w 3 27 .i64 .f64 (i : Int) (by rw [Yba.underlying3]; rfl) Yba.underlying27

theorem walk (runs : Int) (a0 : Option Addr) (L cap0 : Nat) (kz : Nat → Int) (sa : Option Addr) (m cap1 : Nat) (cz : Nat → Int) (nm : Nat → Nat) (w : World) (h0 : IsRowI w a0 L kz) (h1 : IsSteps w sa m cz nm) :
    Calls Yba.prog 3 #[.int .i64 runs, .slice a0 L cap0, .slice sa m cap1] w fun e w' => e = .returned (.bool true) ∧ Below w.heap.size w w' := by
  by_cases hL : L ≤ 256
  · by_cases hm : m ≤ 1024
    · obtain ⟨b, off, ha, hb, hc⟩ := h0
      obtain ⟨sb, so, hsa, hsb, hs⟩ := h1
      exact closed_walk (fun i => floatOfInt .f64 (i : Int)) conv_float runs a0 L cap0 kz b off sa m cap1 cz nm sb so w hL hm ha hb hc hsa hsb (fun t ht => (hs t ht).1) (fun t ht => (hs t ht).2.1) (fun t ht => (hs t ht).2.2)
    · exact big_steps runs a0 L cap0 sa m cap1 w hL (by omega)
  · exact big_kepts runs a0 L cap0 sa m cap1 w (by omega)

set_option maxRecDepth 100000 in
theorem lifted (os : Os) (started : os.Started) (H : Type) (enc : TypeId × Value → H) :
    ReturnsInHanded {} Yba.checked os 3 .any (Rows.lawS0081BClosedScriptSpec.pre6 enc Yba.prog Yba.f3 Rows.lawS0081BClosedScriptRow.domain false) (Rows.lawS0081BClosedScriptSpec.post enc Yba.prog Yba.f3 false true false false) := by
  refine returnsInHanded_of_change (C := Yba.checked) own started (by kernel_rfl) Yba.func3
    (ChangeSpec.witness6 (enc := enc) (C := Yba.checked) false ⟨#[], #[.int .i64 0, .slice none 0 0, .slice none 0 0], []⟩ 8 (by kernel_rfl) (by kernel_rfl) (by kernel_rfl) (by kernel_rfl)) ?_
  intro W base args ds gs before hval0 hW hcnd _
  have hval : ∀ (j : Nat) t v, Yba.f3.params[j]? = some t → args[j]? = some v → Value.okWide Yba.prog W .any base t v := hval0
  have hW' := hW
  obtain ⟨p, q, hA0, hV, rfl, hfz, hnd⟩ := hW
  have hA : DataW.TrodAll enc Yba.prog W 0 (fun _ => true) true Yba.f3.params.toList args.toList ds p := hA0
  rw [Yba.params3] at hA hval
  obtain ⟨v0, vs0, d0, ds0, p0, q0, hargs, rfl, rfl, h0, r0⟩ := trodAll_cons hA
  obtain ⟨v1, vs1, d1, ds1, p1, q1, rfl, rfl, rfl, h1, r1⟩ := trodAll_cons r0
  obtain ⟨v2, vs2, d2, ds2, p2, q2, rfl, rfl, rfl, h2, r2⟩ := trodAll_cons r1
  obtain ⟨rfl, rfl, rfl⟩ := trodAll_nil r2
  obtain rfl : args = #[v0, v1, v2] := by cases args; simp_all
  obtain ⟨rfl, rfl⟩ := trodVars_none hV
  obtain ⟨x0, rfl, rfl, rfl, w0⟩ := open_int Yba.underlying3 (hval 0 3 v0 rfl rfl) h0
  obtain ⟨a1, len1, cap1, rfl⟩ := okWide_slice Yba.underlying22 (hval 1 22 v1 rfl rfl)
  have k1 := h1
  have lt1 : ∀ x ∈ p1, x.block < W.heap.size := by obtain ⟨m, hm⟩ := k1; exact DataW.trod_lt m _ _ _ hm
  obtain ⟨kz, w1⟩ : ∃ f, IsRowI W a1 len1 f := by
    obtain ⟨fuel, hf⟩ := h1
    exact isRowI_of Yba.underlying22 Yba.underlying3 (by kernel_rfl) (by simpa [Value.cells] using hf)
  obtain ⟨a2, len2, cap2, rfl⟩ := okWide_slice Yba.underlying23 (hval 2 23 v2 rfl rfl)
  have k2 := h2
  have lt2 : ∀ x ∈ p2, x.block < W.heap.size := by obtain ⟨m, hm⟩ := k2; exact DataW.trod_lt m _ _ _ hm
  obtain ⟨cz, nm, w2⟩ : ∃ cz nm, IsSteps W a2 len2 cz nm := by
    obtain ⟨fuel, hf⟩ := h2
    exact isSteps_of Yba.underlying23 Yba.underlying44 (by kernel_rfl) rfl rfl (by kernel_rfl) (by kernel_rfl) Yba.underlying5 Yba.underlying27 (by simpa [Value.cells] using hf)
  clear hA0 hval0
  refine (walk x0 a1 len1 cap1 kz a2 len2 cap2 cz nm W w1 w2).mono fun e W' ⟨he, bel⟩ => ?_
  subst he
  exact ⟨_, rfl, _, _, _, [], _, [], hW', trodAll_mk1 (shut_bool Yba.underlying4 _),
    (trodAll_cons_mk (shut_int Yba.underlying3 w0) (trodAll_cons_mk (Below.trod laidOut (by kernel_rfl) (of_decide_eq_true (by kernel_rfl)) k1 bel lt1) (trodAll_cons_mk (Below.trod laidOut (by kernel_rfl) (of_decide_eq_true (by kernel_rfl)) k2 bel lt2) trodAll_mk0))),
    rfl, bel.frame _, fun h => by cases h⟩

theorem over : Rows.lawS0081BClosedScriptRow.holds Yba.pinned (OpenSpec.ofChange Rows.lawS0081BClosedScriptSpec) :=
  OpenClaim.holds_of_wide 3 Yba.f3 rfl rfl rfl rfl rfl rfl rfl ⟨rfl, rfl, rfl, rfl, rfl⟩ rfl rfl rfl rfl rfl (by kernel_rfl) Yba.func3 (by kernel_rfl)
    (of_decide_eq_true (by kernel_rfl)) (by unfold Func.isWrapper; first | (rw [if_pos (by decide +kernel)]; kernel_rfl) | (rw [if_neg (by decide +kernel)]; exact ⟨rfl, rfl⟩))
    (fun os started H enc _ => lifted os started H enc)

end Go.Proofs.Ybulkaqq.ClosedScript
namespace Go.Proofs.Ybulkaqq
theorem closedScript_proved : Rows.LawS0081BClosedScriptSaid := ClosedScript.over
end Go.Proofs.Ybulkaqq
