import Derived.Test.YbulkauyDoorOpen
namespace Go.Proofs.YbulkauyDoor
open Go.ChangeShapes Go.WideShapes Go.ChangeAt Go.RowKit Go.Deep

theorem once_walk {w : World} {a : Option Addr} {n cap b o : Nat} {f : Nat → Int} (hD : Dat w a n cap b o f) (x : Int) (hx : 0 ≤ x ∧ x < 4294967296) (pa : Addr) (hG : w.cell? ⟨1, 0, none⟩ = some (.iface 83 (.pointer (some pa)))) :
    Calls Ybad.prog 4 #[.slice a n cap, .int .u32 x] w fun e w' => e = .returned (.bool true) ∧ Below w.heap.size w w' := by
  by_cases hn : n ≤ 1024
  · obtain ⟨k, rfl⟩ : ∃ k : Nat, x = (k : Int) := ⟨x.toNat, by omega⟩
    exact once_main hD hn k (by omega) pa hG
  · exact once_big a n cap x w (by omega)

set_option maxRecDepth 100000 in
theorem once_lifted (os : Os) (started : os.Started) (H : Type) (enc : TypeId × Value → H) :
    ReturnsInHanded {} Ybad.checked os 4 .any (fun w args => (Rows.lawS0089CTakeOnceSpec.pre enc Ybad.prog Ybad.f4 [] false w args ∧ laidMetH Ybad.prog Rows.lawS0089CTakeOnceRow.laid w) ∧ sizedMet enc Ybad.prog Ybad.f4 (OpenSpec.ofChange Rows.lawS0089CTakeOnceSpec) false w args)
      (Rows.lawS0089CTakeOnceSpec.post enc Ybad.prog Ybad.f4 false true false false) := by
  refine returnsInHanded_of_change_and (C := Ybad.checked) (X := fun w _ => laidMetH Ybad.prog Rows.lawS0089CTakeOnceRow.laid w) (fun _ _ _ hh h => h.of_heap hh) own started (by kernel_rfl) Ybad.func4
    (ChangeSpec.witness_shaped (enc := enc) (C := Ybad.checked) (os := os) (X := fun w _ => laidMetH Ybad.prog Rows.lawS0089CTakeOnceRow.laid w) false (World.doorLaid Ybad.prog 400 os) #[.slice none 0 0, .int .u32 0] 8 rfl (World.shaped_of_RefB (by kernel_rfl) (by kernel_rfl)) (by kernel_rfl) (by kernel_rfl) (by kernel_rfl) (door_met os _)) ?_
  intro W base args ds gs before hval0 hW _ _ hL _
  have hval : ∀ (j : Nat) t v, Ybad.f4.params[j]? = some t → args[j]? = some v → Value.okWide Ybad.prog W .any base t v := hval0
  have hW' := hW
  obtain ⟨p, q, hA0, hV, rfl, hfz, hnd⟩ := hW
  have hA : DataW.TrodAll enc Ybad.prog W 0 (fun _ => true) true Ybad.f4.params.toList args.toList ds p := hA0
  rw [Ybad.params4] at hA hval
  obtain ⟨v0, vs0, d0, ds0, p0, q0, hargs, rfl, rfl, h0, r0⟩ := trodAll_cons hA
  obtain ⟨v1, vs1, d1, ds1, p1, q1, rfl, rfl, rfl, h1, r1⟩ := trodAll_cons r0
  obtain ⟨rfl, rfl, rfl⟩ := trodAll_nil r1
  obtain rfl : args = #[v0, v1] := by cases args; simp_all
  have hVlen := hV
  obtain ⟨g1, rfl⟩ : ∃ g1, gs = [g1] := by
    match gs, hVlen with
    | [g1], _ => exact ⟨g1, rfl⟩
    | [], h => exact h.elim
    | _ :: _ :: _, h =>
      obtain ⟨_, _, _, _, _, _, _, _, _, _, hs, _⟩ := h
      exact hs.elim
  obtain ⟨a0, len0, cap0, rfl⟩ := okWide_slice Ybad.underlying65 (hval 0 65 v0 rfl rfl)
  have k0 := h0
  have lt0 : ∀ x ∈ p0, x.block < W.heap.size := by obtain ⟨m, hm⟩ := k0; exact DataW.trod_lt m _ _ _ hm
  obtain ⟨fuel0, hf0⟩ := h0
  obtain ⟨b, o, f, hD, _, _⟩ := dat_open (fuel := fuel0) (a := a0) (n := len0) (cap := cap0) (x := (d0, p0)) (by simpa [Value.cells] using hf0)
  obtain ⟨x1, rfl, rfl, rfl, w1⟩ := open_int Ybad.underlying26 (hval 1 26 v1 rfl rfl) h1
  obtain ⟨pa, hG⟩ := err_of_laid hL
  have hb := bounds_u32 w1
  clear hA0 hval0
  refine (once_walk hD x1 ⟨hb.1, by omega⟩ pa hG).mono fun e W' ⟨he, bel⟩ => ?_
  subst he
  exact ⟨_, rfl, _, _, _, [], _, _, hW', trodAll_mk1 (shut_bool Ybad.underlying4 _),
    (trodAll_cons_mk (Below.trod laidOut (by kernel_rfl) (of_decide_eq_true (by kernel_rfl)) k0 bel lt0) (trodAll_cons_mk (shut_int Ybad.underlying26 w1) trodAll_mk0)),
    Below.trodVars laidOut bel (by kernel_rfl) hV, bel.frame _, fun h => by cases h⟩

theorem once_row : Rows.LawS0089CTakeOnceSaid :=
  OpenClaim.holds_of_wide 4 Ybad.f4 rfl rfl rfl rfl rfl rfl rfl ⟨rfl, rfl, rfl, rfl, rfl⟩ rfl rfl rfl rfl rfl (by kernel_rfl) Ybad.func4 (by kernel_rfl)
    (of_decide_eq_true (by kernel_rfl)) (by unfold Func.isWrapper; first | (rw [if_pos (by decide +kernel)]; kernel_rfl) | (rw [if_neg (by decide +kernel)]; exact ⟨rfl, rfl⟩))
    (fun os started H enc _ => once_lifted os started H enc)

theorem once_proved : Rows.LawS0089CTakeOnceCardSaid :=
  Claim7.holds_tied_plain_at .later [] [.sentinel] true Rows.lawS0089CTakeOnceCard.stood.harness true
    once_row (fun _ h => by cases h) (by kernel_rfl) (fun _ h => by cases h) lawS0089CTakeOnce_row_tie rfl ⟨rfl, rfl⟩ (by kernel_rfl) rfl
    (fun f fn hf hfn => by
      obtain rfl : f = 4 := Option.some.inj ((show Ybad.prog.funcNamed Rows.lawS0089CTakeOnceRow.func = some 4 by kernel_rfl).symm.trans hf) |>.symm
      obtain rfl : fn = Ybad.f4 := (Option.some.inj (Ybad.func4.symm.trans hfn)).symm
      exact ⟨by kernel_rfl, fun j t ht => by
        rw [Ybad.params4] at ht
        have hm : t ∈ [65, 26] := by simpa using Array.mem_of_getElem? ht
        have hall : ([65, 26].all fun u => !Ybad.prog.wantsStandIn u) = true := by kernel_rfl
        exact (show Ybad.prog.wantsStandIn t = false by simpa using List.all_eq_true.1 hall t hm)⟩)
    (by kernel_rfl)

end Go.Proofs.YbulkauyDoor
