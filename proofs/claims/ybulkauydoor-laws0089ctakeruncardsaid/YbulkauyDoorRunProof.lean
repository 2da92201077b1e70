import Derived.Test.YbulkauyDoorOpen
import Derived.Test.YbulkauyDoorRun
namespace Go.Proofs.YbulkauyDoor
open Go.ChangeShapes Go.WideShapes Go.ChangeAt Go.RowKit Go.Deep

theorem run_walk {w : World} {a : Option Addr} {n cap b o : Nat} {f : Nat → Int} (hD : Dat w a n cap b o f) {a2 : Option Addr} {m cap2 b2 o2 : Nat} {f2 : Nat → Int} (hD2 : Dat w a2 m cap2 b2 o2 f2) (hb2 : 0 < m → b2 < w.heap.size) (hf2 : ∀ i, i < m → 0 ≤ f2 i ∧ f2 i < 256)
    (pa : Addr) (hG : w.cell? ⟨1, 0, none⟩ = some (.iface 83 (.pointer (some pa)))) :
    Calls Ybad.prog 6 #[.slice a n cap, .slice a2 m cap2] w fun e w' => e = .returned (.bool true) ∧ Below w.heap.size w w' := by
  by_cases hn : n ≤ 1024 ∧ m ≤ 1024
  · exact run_main hD hn.1 hD2 hn.2 hb2 hf2 pa hG
  · exact run_big _ _ _ _ _ _ w (by omega)

set_option maxRecDepth 100000 in
theorem run_lifted (os : Os) (started : os.Started) (H : Type) (enc : TypeId × Value → H) :
    ReturnsInHanded {} Ybad.checked os 6 .any (fun w args => (Rows.lawS0089CTakeRunSpec.pre enc Ybad.prog Ybad.f6 [] false w args ∧ laidMetH Ybad.prog Rows.lawS0089CTakeRunRow.laid w) ∧ sizedMet enc Ybad.prog Ybad.f6 (OpenSpec.ofChange Rows.lawS0089CTakeRunSpec) false w args)
      (Rows.lawS0089CTakeRunSpec.post enc Ybad.prog Ybad.f6 false true false false) := by
  refine returnsInHanded_of_change_and (C := Ybad.checked) (X := fun w _ => laidMetH Ybad.prog Rows.lawS0089CTakeRunRow.laid w) (fun _ _ _ hh h => h.of_heap hh) own started (by kernel_rfl) Ybad.func6
    (ChangeSpec.witness_shaped (enc := enc) (C := Ybad.checked) (os := os) (X := fun w _ => laidMetH Ybad.prog Rows.lawS0089CTakeRunRow.laid w) false (World.doorLaid Ybad.prog 400 os) #[.slice none 0 0, .slice none 0 0] 8 rfl (World.shaped_of_RefB (by kernel_rfl) (by kernel_rfl)) (by kernel_rfl) (by kernel_rfl) (by kernel_rfl) (door_met os _)) ?_
  intro W base args ds gs before hval0 hW _ _ hL _
  have hval : ∀ (j : Nat) t v, Ybad.f6.params[j]? = some t → args[j]? = some v → Value.okWide Ybad.prog W .any base t v := hval0
  have hW' := hW
  obtain ⟨p, q, hA0, hV, rfl, hfz, hnd⟩ := hW
  have hA : DataW.TrodAll enc Ybad.prog W 0 (fun _ => true) true Ybad.f6.params.toList args.toList ds p := hA0
  rw [Ybad.params6] at hA hval
  obtain ⟨v0, vs0, d0, ds0, p0, q0, hargs, rfl, rfl, h0, r0⟩ := trodAll_cons hA
  obtain ⟨v1, vs1, d1, ds1, p1, q1, rfl, rfl, rfl, h1, r1⟩ := trodAll_cons r0
  obtain ⟨rfl, rfl, rfl⟩ := trodAll_nil r1
  obtain rfl : args = #[v0, v1] := by cases args; simp_all
  have hVlen := hV
  obtain ⟨g1, rfl⟩ : ∃ g1, gs = [g1] := by
    match gs, hVlen with
    | [g1], _ => exact ⟨g1, rfl⟩
    | [], h => exact h.elim
    | _ :: _ :: _, h =>
      obtain ⟨_, _, _, _, _, _, _, _, _, _, hs, _⟩ := h
      exact hs.elim
  obtain ⟨a0, len0, cap0, rfl⟩ := okWide_slice Ybad.underlying65 (hval 0 65 v0 rfl rfl)
  have k0 := h0
  have lt0 : ∀ x ∈ p0, x.block < W.heap.size := by obtain ⟨m, hm⟩ := k0; exact DataW.trod_lt m _ _ _ hm
  obtain ⟨fuel0, hf0⟩ := h0
  obtain ⟨b, o, f, hD, _, _⟩ := dat_open (fuel := fuel0) (a := a0) (n := len0) (cap := cap0) (x := (d0, p0)) (by simpa [Value.cells] using hf0)
  obtain ⟨a1, len1, cap1, rfl⟩ := okWide_slice Ybad.underlying65 (hval 1 65 v1 rfl rfl)
  have k1 := h1
  have lt1 : ∀ x ∈ p1, x.block < W.heap.size := by obtain ⟨m, hm⟩ := k1; exact DataW.trod_lt m _ _ _ hm
  obtain ⟨fuel1, hf1⟩ := h1
  obtain ⟨b2, o2, f2, hD2, hb2, hf2⟩ := dat_open (fuel := fuel1) (a := a1) (n := len1) (cap := cap1) (x := (d1, p1)) (by simpa [Value.cells] using hf1)
  obtain ⟨pa, hG⟩ := err_of_laid hL
  clear hA0 hval0
  refine (run_walk hD hD2 hb2 hf2 pa hG).mono fun e W' ⟨he, bel⟩ => ?_
  subst he
  exact ⟨_, rfl, _, _, _, [], _, _, hW', trodAll_mk1 (shut_bool Ybad.underlying4 _),
    (trodAll_cons_mk (Below.trod laidOut (by kernel_rfl) (of_decide_eq_true (by kernel_rfl)) k0 bel lt0) (trodAll_cons_mk (Below.trod laidOut (by kernel_rfl) (of_decide_eq_true (by kernel_rfl)) k1 bel lt1) trodAll_mk0)),
    Below.trodVars laidOut bel (by kernel_rfl) hV, bel.frame _, fun h => by cases h⟩

theorem run_row : Rows.LawS0089CTakeRunSaid :=
  OpenClaim.holds_of_wide 6 Ybad.f6 rfl rfl rfl rfl rfl rfl rfl ⟨rfl, rfl, rfl, rfl, rfl⟩ rfl rfl rfl rfl rfl (by kernel_rfl) Ybad.func6 (by kernel_rfl)
    (of_decide_eq_true (by kernel_rfl)) (by unfold Func.isWrapper; first | (rw [if_pos (by decide +kernel)]; kernel_rfl) | (rw [if_neg (by decide +kernel)]; exact ⟨rfl, rfl⟩))
    (fun os started H enc _ => run_lifted os started H enc)

theorem run_proved : Rows.LawS0089CTakeRunCardSaid :=
  Claim7.holds_tied_plain_at .later [] [.sentinel] true Rows.lawS0089CTakeRunCard.stood.harness true
    run_row (fun _ h => by cases h) (by kernel_rfl) (fun _ h => by cases h) lawS0089CTakeRun_row_tie rfl ⟨rfl, rfl⟩ (by kernel_rfl) rfl
    (fun f fn hf hfn => by
      obtain rfl : f = 6 := Option.some.inj ((show Ybad.prog.funcNamed Rows.lawS0089CTakeRunRow.func = some 6 by kernel_rfl).symm.trans hf) |>.symm
      obtain rfl : fn = Ybad.f6 := (Option.some.inj (Ybad.func6.symm.trans hfn)).symm
      exact ⟨by kernel_rfl, fun j t ht => by
        rw [Ybad.params6] at ht
        have hm : t ∈ [65, 65] := by simpa using Array.mem_of_getElem? ht
        have hall : ([65, 65].all fun u => !Ybad.prog.wantsStandIn u) = true := by kernel_rfl
        exact (show Ybad.prog.wantsStandIn t = false by simpa using List.all_eq_true.1 hall t hm)⟩)
    (by kernel_rfl)

end Go.Proofs.YbulkauyDoor
