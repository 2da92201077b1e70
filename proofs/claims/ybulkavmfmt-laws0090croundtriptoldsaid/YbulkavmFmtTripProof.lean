import Derived.Test.YbulkavmFmtTrip
import Derived.Test.YbulkavmFmtCards
import Derived.ProofKit
import Derived.OpenShut
import Derived.Deep.Slices
import Derived.SevenToldRow
import Derived.Stop.JoinedTold
import Derived.Stop.JoinedAt
namespace Go.Proofs.YbulkavmFmt
open Go.ChangeShapes Go.WideShapes Go.ChangeAt Go.RowKit Go.Deep

theorem own : ownKnob Ybaf.prog.godebug = none := by kernel_rfl
theorem laidOut : laidOutB Ybaf.prog = true := by kernel_rfl
theorem stopKnobs : Ybaf.pinned.checked.prog.stopKnobs = [] := by kernel_rfl
theorem quietAny (os : Os) : Stop.quiet Ybaf.pinned.checked.prog os := by
  intro k hk
  rw [stopKnobs] at hk
  cases hk

theorem cells4 : Ybaf.prog.cellsOf 4 = 1 := by kernel_rfl

theorem bools_open {H : Type} {enc : TypeId × Value → H} {W : World} {fuel : Nat} {a : Option Addr} {n cap : Nat} {x : DataW H × List MemPlace} (h : DataW.trod enc Ybaf.prog W 0 (fun _ => true) true fuel 31 [.slice a n cap] = some x) :
    ∃ b o y, Bools W a n b o y := by
  rcases open_slice1 Ybaf.underlying31 cells4 h with ⟨hcs, hx⟩ | ⟨ad, l, c, m, q, V, D, Pl, hcs, _, hl, hm, hmm, hxx, hx⟩
  · simp at hcs
    obtain ⟨rfl, rfl, rfl⟩ := hcs
    exact ⟨0, 0, fun _ => false, ⟨fun h => absurd h (Nat.lt_irrefl _), fun h => absurd h (Nat.lt_irrefl _), fun i hi => absurd hi (Nat.not_lt_zero _)⟩⟩
  · simp at hcs
    obtain ⟨rfl, rfl, rfl⟩ := hcs
    simp only [if_true] at hmm
    obtain ⟨b, off, spot⟩ := ad
    have hz : ∀ i, i < n → ∃ z : Bool, W.cell? ((⟨b, off, spot⟩ : Addr).add i) = some (.bool z) := fun i hi => by
      obtain ⟨h1, h2⟩ := hx i (by omega)
      match q, h2 with
      | 0, h2 => simp [DataW.trod] at h2
      | q + 1, h2 =>
        cases hv : V i with
        | bool z => rw [hv] at h1; exact ⟨z, h1⟩
        | _ => rw [hv] at h2; simp [DataW.trod, Ybaf.underlying4] at h2
    obtain ⟨f, hf⟩ := choose_lt hz
    by_cases h0 : 0 < n
    · have hs : spot = none := by simpa [Addr.add] using World.cell?_spot (hf 0 h0)
      subst hs
      refine ⟨b, off, f, ⟨fun _ => rfl, fun _ => World.block_lt_of_cell? _ _ (hf 0 h0), fun i hi => ?_⟩⟩
      have e : (⟨b, off, none⟩ : Addr).add i = ⟨b, off + i, none⟩ := by simp [Addr.add]
      rw [← e]
      exact hf i hi
    · exact ⟨b, off, f, ⟨fun h => absurd h h0, fun h => absurd h h0, fun i hi => by omega⟩⟩

theorem trip_big (a : Option Addr) (n cap : Nat) (w : World) (hn : 1024 < n) : Calls Ybaf.prog 4 #[.slice a n cap] w fun e w' => e = .returned (.bool true) ∧ Below w.heap.size w w' := by
  have hz : (1024 : Int) < (n : Int) := by omega
  go_enter Ybaf.func4, Ybaf.ntmps4
  go_wp2_with fail
  go_ret
  exact ⟨rfl, Below.refl _ _⟩

theorem trip_walk {w : World} {a : Option Addr} {n cap b o : Nat} {y : Nat → Bool} (hB : Bools w a n b o y) : Calls Ybaf.prog 4 #[.slice a n cap] w fun e w' => e = .returned (.bool true) ∧ Below w.heap.size w w' := by
  by_cases hn : n ≤ 1024
  · exact trip_main hB hn
  · exact trip_big a n cap w (by omega)

set_option maxRecDepth 100000 in
theorem trip_lifted (os : Os) (started : os.Started) (H : Type) (enc : TypeId × Value → H) :
    ReturnsInTold none {} Ybaf.checked os 4 .any Input.okWide ((OpenSpec.ofChange Rows.lawS0090CRoundTripSpec).preRow enc Ybaf.prog Ybaf.f4 [] false [])
      (fun F => ((OpenSpec.ofChange Rows.lawS0090CRoundTripSpec).at F).post enc Ybaf.prog Ybaf.f4 false true false false) (aloneAtReturn Ybaf.prog) nothingAlways := by
  refine returnsInTold_of_row (C := Ybaf.checked) (s := OpenSpec.ofChange Rows.lawS0090CRoundTripSpec) (by kernel_rfl) own started (by kernel_rfl) Ybaf.func4
    (OpenSpec.witness_stopped (enc := enc) (C := Ybaf.checked) false ⟨#[], #[.slice none 0 0], []⟩ 8 (by kernel_rfl) (by kernel_rfl) (by kernel_rfl) (by kernel_rfl)) ?_
  intro F W base args ds gs before _ hF hval0 hW _ _ _ _ _
  have hval : ∀ (j : Nat) t v, Ybaf.f4.params[j]? = some t → args[j]? = some v → Value.okWide Ybaf.prog W .any base t v := hval0
  have hW' := hW
  obtain ⟨p, q, hA0, hV, rfl, hfz, hnd⟩ := hW
  have hA : DataW.TrodAll enc Ybaf.prog W 0 (fun _ => true) true Ybaf.f4.params.toList args.toList ds p := hA0
  rw [Ybaf.params4] at hA hval
  obtain ⟨v0, vs0, d0, ds0, p0, q0, hargs, rfl, rfl, h0, r0⟩ := trodAll_cons hA
  obtain ⟨rfl, rfl, rfl⟩ := trodAll_nil r0
  obtain rfl : args = #[v0] := by cases args; simp_all
  obtain ⟨rfl, rfl⟩ := trodVars_none hV
  obtain ⟨a0, len0, cap0, rfl⟩ := okWide_slice Ybaf.underlying31 (hval 0 31 v0 rfl rfl)
  have k0 := h0
  have lt0 : ∀ x ∈ p0, x.block < W.heap.size := by obtain ⟨m, hm⟩ := k0; exact DataW.trod_lt m _ _ _ hm
  obtain ⟨fuel0, hf0⟩ := h0
  obtain ⟨b, o, f, hD⟩ := bools_open (fuel := fuel0) (a := a0) (n := len0) (cap := cap0) (x := (d0, p0)) (by simpa [Value.cells] using hf0)
  clear hA0 hval0
  refine (trip_walk hD).mono fun e W' ⟨hre, bel⟩ => ?_
  subst hre
  exact ⟨_, rfl, _, _, _, [], _, [], hW', trodAll_mk1 (shut_bool Ybaf.underlying4 _),
    (trodAll_cons_mk (Below.trod laidOut (by kernel_rfl) (of_decide_eq_true (by kernel_rfl)) k0 bel lt0) trodAll_mk0),
    rfl, bel.frame _, fun h => by cases h⟩

theorem trip_proved : Rows.LawS0090CRoundTripToldSaid :=
  Claim7.holds_of_told_any 4 Ybaf.f4 _ _ [] _ _ _ (by kernel_rfl) rfl rfl rfl laidOut (by kernel_rfl) rfl ⟨rfl, rfl, rfl, rfl, rfl, rfl, rfl⟩ rfl rfl (by kernel_rfl) (by kernel_rfl) Ybaf.func4 (by kernel_rfl)
    (of_decide_eq_true (by kernel_rfl)) (of_decide_eq_true (by kernel_rfl)) (by kernel_rfl) rfl stopKnobs.symm (by kernel_rfl)
    (by kernel_rfl) (by kernel_rfl) (by kernel_rfl) (by kernel_rfl) (by kernel_rfl) (by kernel_rfl) (by kernel_rfl) (by kernel_rfl) (by kernel_rfl) rfl (by kernel_rfl) rfl rfl
    rfl rfl
    rfl (by kernel_rfl) (by kernel_rfl) (by kernel_rfl) (by decide) (by kernel_rfl)
    (OpenClaim.moreEntering_of (by kernel_rfl) (by kernel_rfl) (by kernel_rfl) (by kernel_rfl) (by kernel_rfl) (by kernel_rfl) (by kernel_rfl) (by kernel_rfl) (by kernel_rfl) (by kernel_rfl))
    ⟨_, WideRow.started_initial, quietAny _⟩
    (fun os started _ H enc _ => trip_lifted os started H enc)

end Go.Proofs.YbulkavmFmt
