import Derived.Test.YbulkavmFmtRead
import Derived.Test.YbulkavmFmtCards
import Derived.ProofKit
import Derived.OpenShut
import Derived.Deep.Slices
import Derived.SevenToldRow
import Derived.Stop.JoinedTold
import Derived.Stop.JoinedAt
namespace Go.Proofs.YbulkavmFmt
open Go.ChangeShapes Go.WideShapes Go.ChangeAt Go.RowKit Go.Deep

theorem own : ownKnob Ybaf.prog.godebug = none := by kernel_rfl
theorem laidOut : laidOutB Ybaf.prog = true := by kernel_rfl
theorem cells5 : Ybaf.prog.cellsOf 5 = 1 := by kernel_rfl
theorem stopKnobs : Ybaf.pinned.checked.prog.stopKnobs = [] := by kernel_rfl
theorem quietAny (os : Os) : Stop.quiet Ybaf.pinned.checked.prog os := by
  intro k hk
  rw [stopKnobs] at hk
  cases hk

theorem arg_open {H : Type} {enc : TypeId × Value → H} {W : World} {fuel : Nat} {a : Option Addr} {n cap : Nat} {x : DataW H × List MemPlace} (h : DataW.trod enc Ybaf.prog W 0 (fun _ => true) true fuel 22 [.slice a n cap] = some x) :
    ∃ b o f, Arg W a n cap b o f := by
  rcases open_slice1 Ybaf.underlying22 cells5 h with ⟨hcs, hx⟩ | ⟨ad, l, c, m, q, V, D, Pl, hcs, _, hl, hm, hmm, hxx, hx⟩
  · simp at hcs
    obtain ⟨rfl, rfl, rfl⟩ := hcs
    exact ⟨0, 0, fun _ => 0, ⟨fun h => absurd h (Nat.lt_irrefl _), fun h => absurd h (Nat.lt_irrefl _), fun i hi => absurd hi (Nat.not_lt_zero _), Nat.le_refl _, by omega⟩⟩
  · simp at hcs
    obtain ⟨rfl, rfl, rfl⟩ := hcs
    simp only [if_true] at hmm
    obtain ⟨b, off, spot⟩ := ad
    have hz : ∀ i, i < n → ∃ z : Int, W.cell? ((⟨b, off, spot⟩ : Addr).add i) = some (.int .u8 z) := fun i hi => by
      obtain ⟨h1, h2⟩ := hx i (by omega)
      obtain ⟨z, e1, _, hw⟩ := DataW.trod_int Ybaf.underlying5 h2
      simp at e1
      exact ⟨z, by rw [h1, e1]⟩
    obtain ⟨f, hf⟩ := choose_lt hz
    have hcB : cap < 9223372036854775808 := by simp only [maxLen] at hm; omega
    by_cases h0 : 0 < n
    · have hs : spot = none := by simpa [Addr.add] using World.cell?_spot (hf 0 h0)
      subst hs
      refine ⟨b, off, f, ⟨fun _ => rfl, fun _ => World.block_lt_of_cell? _ _ (hf 0 h0), fun i hi => ?_, hl, hcB⟩⟩
      have e : (⟨b, off, none⟩ : Addr).add i = ⟨b, off + i, none⟩ := by simp [Addr.add]
      rw [← e]
      exact hf i hi
    · exact ⟨b, off, f, ⟨fun h => absurd h h0, fun h => absurd h h0, fun i hi => by omega, hl, hcB⟩⟩

theorem read_big (a : Option Addr) (n cap : Nat) (he : Bool) (w : World) (hn : 1024 < n) : Calls Ybaf.prog 3 #[.slice a n cap, .bool he] w fun e w' => e = .returned (.bool true) ∧ Below w.heap.size w w' := by
  have hz : (1024 : Int) < (n : Int) := by omega
  go_enter Ybaf.func3, Ybaf.ntmps3
  go_wp2_with fail
  go_ret
  exact ⟨rfl, Below.refl _ _⟩

theorem read_walk (F : Stop.Interp) {w : World} (hF : F.answers w.tape) {a : Option Addr} {n cap b o : Nat} {f : Nat → Int} (hA : Arg w a n cap b o f) (he : Bool) :
    Calls Ybaf.prog 3 #[.slice a n cap, .bool he] w fun e w' => e = .returned (.bool true) ∧ Below w.heap.size w w' := by
  by_cases hn : n ≤ 1024
  · cases he with
    | true => exact read_err a n cap hn
    | false =>
      by_cases h0 : 0 < n
      · obtain rfl := hA.pos h0
        exact read_some F hF hA hn h0
      · obtain rfl : n = 0 := by omega
        exact read_none a cap
  · exact read_big a n cap he w (by omega)

set_option maxRecDepth 100000 in
theorem read_lifted (os : Os) (started : os.Started) (H : Type) (enc : TypeId × Value → H) :
    ReturnsInTold none {} Ybaf.checked os 3 .any Input.okWide ((OpenSpec.ofChange Rows.lawS0090CReadSpec).preRow enc Ybaf.prog Ybaf.f3 [] false [])
      (fun F => ((OpenSpec.ofChange Rows.lawS0090CReadSpec).at F).post enc Ybaf.prog Ybaf.f3 false true false false) (aloneAtReturn Ybaf.prog) nothingAlways := by
  refine returnsInTold_of_row (C := Ybaf.checked) (s := OpenSpec.ofChange Rows.lawS0090CReadSpec) (by kernel_rfl) own started (by kernel_rfl) Ybaf.func3
    (OpenSpec.witness_stopped (enc := enc) (C := Ybaf.checked) false ⟨#[], #[.slice none 0 0, .bool false], []⟩ 8 (by kernel_rfl) (by kernel_rfl) (by kernel_rfl) (by kernel_rfl)) ?_
  intro F W base args ds gs before _ hF hval0 hW _ _ _ _ _
  have hval : ∀ (j : Nat) t v, Ybaf.f3.params[j]? = some t → args[j]? = some v → Value.okWide Ybaf.prog W .any base t v := hval0
  have hW' := hW
  obtain ⟨p, q, hA0, hV, rfl, hfz, hnd⟩ := hW
  have hA : DataW.TrodAll enc Ybaf.prog W 0 (fun _ => true) true Ybaf.f3.params.toList args.toList ds p := hA0
  rw [Ybaf.params3] at hA hval
  obtain ⟨v0, vs0, d0, ds0, p0, q0, hargs, rfl, rfl, h0, r0⟩ := trodAll_cons hA
  obtain ⟨v1, vs1, d1, ds1, p1, q1, rfl, rfl, rfl, h1, r1⟩ := trodAll_cons r0
  obtain ⟨rfl, rfl, rfl⟩ := trodAll_nil r1
  obtain rfl : args = #[v0, v1] := by cases args; simp_all
  obtain ⟨rfl, rfl⟩ := trodVars_none hV
  obtain ⟨a0, len0, cap0, rfl⟩ := okWide_slice Ybaf.underlying22 (hval 0 22 v0 rfl rfl)
  have k0 := h0
  have lt0 : ∀ x ∈ p0, x.block < W.heap.size := by obtain ⟨m, hm⟩ := k0; exact DataW.trod_lt m _ _ _ hm
  obtain ⟨fuel0, hf0⟩ := h0
  obtain ⟨b, o, f, hD⟩ := arg_open (fuel := fuel0) (a := a0) (n := len0) (cap := cap0) (x := (d0, p0)) (by simpa [Value.cells] using hf0)
  obtain ⟨he, rfl, rfl, rfl⟩ := open_bool Ybaf.underlying4 (hval 1 4 v1 rfl rfl) h1
  clear hA0 hval0
  refine (read_walk F.told hF hD he).mono fun e W' ⟨hre, bel⟩ => ?_
  subst hre
  exact ⟨_, rfl, _, _, _, [], _, [], hW', trodAll_mk1 (shut_bool Ybaf.underlying4 _),
    (trodAll_cons_mk (Below.trod laidOut (by kernel_rfl) (of_decide_eq_true (by kernel_rfl)) k0 bel lt0) (trodAll_cons_mk (shut_bool Ybaf.underlying4 _) trodAll_mk0)),
    rfl, bel.frame _, fun h => by cases h⟩

theorem read_proved : Rows.LawS0090CReadToldSaid :=
  Claim7.holds_of_told_any 3 Ybaf.f3 _ _ [] _ _ _ (by kernel_rfl) rfl rfl rfl laidOut (by kernel_rfl) rfl ⟨rfl, rfl, rfl, rfl, rfl, rfl, rfl⟩ rfl rfl (by kernel_rfl) (by kernel_rfl) Ybaf.func3 (by kernel_rfl)
    (of_decide_eq_true (by kernel_rfl)) (of_decide_eq_true (by kernel_rfl)) (by kernel_rfl) rfl stopKnobs.symm (by kernel_rfl)
    (by kernel_rfl) (by kernel_rfl) (by kernel_rfl) (by kernel_rfl) (by kernel_rfl) (by kernel_rfl) (by kernel_rfl) (by kernel_rfl) (by kernel_rfl) rfl (by kernel_rfl) rfl rfl
    rfl rfl
    rfl (by kernel_rfl) (by kernel_rfl) (by kernel_rfl) (by decide) (by kernel_rfl)
    (OpenClaim.moreEntering_of (by kernel_rfl) (by kernel_rfl) (by kernel_rfl) (by kernel_rfl) (by kernel_rfl) (by kernel_rfl) (by kernel_rfl) (by kernel_rfl) (by kernel_rfl) (by kernel_rfl))
    ⟨_, WideRow.started_initial, quietAny _⟩
    (fun os started _ H enc _ => read_lifted os started H enc)

end Go.Proofs.YbulkavmFmt
