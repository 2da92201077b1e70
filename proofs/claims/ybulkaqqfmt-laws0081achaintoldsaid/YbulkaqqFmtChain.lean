import Derived.Test.YbulkaqqFmtCons
namespace Go.Proofs.YbulkaqqFmt
open Go.RowKit Go.Maps

/-- One link of the chain: what scope cur has captured for name k. -/
theorem chain_at {E : Env} {w wx : World} {nm : Nat → List Nat} {cv : Nat → Value} (hQ : Q E w wx nm cv) {t k a s : Nat} (htn : t < E.N) (hres : Pl.res E.lk t k = some (a, s)) (hmem : ∀ j, a < j → j ≤ t → k ∈ nm j) {cur : Nat} (h1 : a < cur) (h2 : cur ≤ t) :
    ∃ (g c : Nat) (cl : Bool) (ci : Nat), wx.cell? ⟨E.fb cur, 4, none⟩ = some (.slice (some ⟨g, 0, none⟩) (nm cur).length c) ∧ (nm cur).idxOf k < (nm cur).length ∧ wx.cell? ⟨g, (nm cur).idxOf k * 2, none⟩ = some (.bool cl) ∧ wx.cell? ⟨g, (nm cur).idxOf k * 2 + 1, none⟩ = some (.int .i64 (ci : Int)) ∧
      ((cur = a + 1 ∧ cl = true ∧ ci = s) ∨ (a < cur - 1 ∧ cl = false ∧ ci = (nm (cur - 1)).idxOf k)) := by
  have hcn : cur < E.N := by omega
  have hm := hmem cur h1 h2
  obtain ⟨ao, g, c, hcv, hao, hcell⟩ := cap_cells hQ hcn
  have hlt := List.idxOf_lt_length_of_mem hm
  obtain rfl := hao (by omega)
  have hidx : (Pl.caps E.lk nm cur)[(nm cur).idxOf k]? = some (Pl.capOf E.lk nm cur k) := by
    have : (nm cur)[(nm cur).idxOf k]? = some k := by rw [List.getElem?_eq_getElem hlt, List.getElem_idxOf hlt]
    simp [Pl.caps, this]
  obtain ⟨x0, x1⟩ := hcell _ _ hidx
  refine ⟨g, c, _, _, by simp [World.cell?, hQ.fn cur hcn, funObj, hcv], hlt, x0, x1, ?_⟩
  by_cases e : cur = a + 1
  · left
    have hl := (Pl.res_lt t k a s hres).2
    subst e
    have : Pl.capOf E.lk nm (a + 1) k = (true, s) := capOf_local hl
    rw [this]
    exact ⟨rfl, rfl, rfl⟩
  · right
    have hl := Pl.res_none t k a s hres (cur - 1) (by omega) (by omega)
    have : Pl.capOf E.lk nm cur k = (false, (nm (cur - 1)).idxOf k) := by simp [Pl.capOf, hl]
    rw [this]
    exact ⟨by omega, rfl, rfl⟩

set_option maxHeartbeats 1600000 in
set_option maxRecDepth 100000 in
theorem chain_main {I : In} {w : World} (hI : I.Ok w) (hN : I.N ≤ 64) (h1 : 0 < I.N) {qa : Option Addr} {qn qc qb qo : Nat} {qx : Nat → Nat} (hq : QRow w qa qn qb qo qx) (hqn : qn ≤ 1024) :
    Calls Ybaf.prog 3 #[.slice I.a0 I.N I.cap, .slice qa qn qc] w fun e w' => e = .returned (.bool true) ∧ Below w.heap.size w w' := by
  have HI := hide hI
  have hqa := hq.a
  have HQR := hide hq
  obtain ⟨a0, hea0⟩ : ∃ a, I.a0 = a := ⟨_, rfl⟩
  obtain ⟨nn, hnn⟩ : ∃ n, I.N = n := ⟨_, rfl⟩
  obtain ⟨ac, hac⟩ : ∃ n, I.cap = n := ⟨_, rfl⟩
  have hsz := size_any hI hN
  have hbd := fun w1 (hb : Below w.heap.size w w1) => build_any (hI.below hb) hN h1
  rw [hea0, hnn, hac] at hsz
  rw [hea0, hnn, hac] at hbd
  rw [hea0, hnn, hac]
  rw [hnn] at hN h1
  have HSz := hide hsz
  have HBd := hide hbd
  clear hI hea0 hnn hac hsz hbd hq
  have n0 : ((nn : Int) == 0) = false := by simp; omega
  have n1 : ¬ (64 : Int) < (nn : Int) := by omega
  have n2 : ¬ (1024 : Int) < (qn : Int) := by omega
  go_enter Ybaf.func3, Ybaf.ntmps3
  go_wp2_with fail
  refine HSz.out.mono ?_
  rintro e w1 ⟨⟨z, rfl⟩, hb1⟩
  by_cases hz : (1024 : Int) < z
  · go_wp2_with fail
    go_ret
    exact ⟨rfl, hb1⟩
  · go_wp2_with fail
    refine (HBd.out w1 hb1).mono ?_
    rintro e w2 ⟨E, hEN, rfl, hE, hQ⟩
    subst hEN
    have HE := hide hE
    have HQ0 := hide hQ
    have HB1 := hide hb1
    clear hE hQ hb1 HSz HBd n1 n2 hz
    go_wp2
    go_loopg [44] qn (fun g s44 wx => ∃ (i : Nat) (nm : Nat → List Nat) (cv : Nat → Value), i ≤ qn ∧ g = qn - i ∧ s44 = .int .i64 (i : Int) ∧ Hid (Pl.Inv E.lk nm) ∧ Hid (Q E w1 wx nm cv))
    case atStart => exact ⟨0, _, _, Nat.zero_le _, rfl, rfl, hide (inv0 _), HQ0⟩
    case round =>
      obtain ⟨i, nm, cv, hi, rfl, rfl, HInv, HQ⟩ := hrel
      clear HQ0
      by_cases hin : i < qn
      · obtain rfl := hqa (by omega)
        have hlt := HQR.out.lt (by omega)
        have q1 : wr.cell? ⟨qb, qo + i, none⟩ = some (.int .u8 (qx i : Int)) := ((HQ.out.below.cell (show qb < w1.heap.size from Nat.lt_of_lt_of_le hlt HB1.out.size)).trans (HB1.out.cell hlt)).trans (HQR.out.row i hin)
        have hx := HQR.out.x i
        have hzi : (i : Int) < (qn : Int) := by omega
        have nz : (E.N : Int) ≠ 0 := by omega
        obtain ⟨x, hex⟩ : ∃ x, qx i = x := ⟨_, rfl⟩
        rw [hex] at q1 hx
        clear hex
        obtain ⟨t, ht⟩ : ∃ t, x / 5 % E.N = t := ⟨_, rfl⟩
        have htn : t < E.N := ht ▸ Nat.mod_lt _ h1
        have het : (x : Int) / 5 % (E.N : Int) = (t : Int) := by rw [← ht]; simp
        obtain ⟨k, hk⟩ : ∃ k, x % 5 = k := ⟨_, rfl⟩
        have hk5 : k < 5 := by omega
        have hek : (x : Int) % 5 = (k : Int) := by omega
        clear ht hk
        have hti : (t : Int) < (E.N : Int) := by omega
        obtain ⟨ns, hns⟩ : ∃ ns, nameS k = ns := ⟨_, rfl⟩
        obtain ⟨ra, hra⟩ : ∃ r, resA (Pl.res E.lk t k) = r := ⟨_, rfl⟩
        obtain ⟨rs, hrs⟩ : ∃ r, resS (Pl.res E.lk t k) = r := ⟨_, rfl⟩
        obtain ⟨bb, hbb⟩ : ∃ r, (Pl.res E.lk t k).isSome = r := ⟨_, rfl⟩
        obtain ⟨iv, hiv⟩ : ∃ r, capRes E.lk t k nm = r := ⟨_, rfl⟩
        obtain ⟨nm', hnm⟩ : ∃ r, Pl.after E.lk t k nm = r := ⟨_, rfl⟩
        have HNo := hide (show bb = false → iv = 0 ∧ nm' = nm from fun hb => by
          have hr : Pl.res E.lk t k = none := by simpa [hb] using hbb
          exact ⟨by rw [← hiv]; simp [capRes, hr], by rw [← hnm]; exact Pl.after_none t k hr⟩)
        have HYes := hide (show bb = true → iv = (nm' t).idxOf k ∧ Pl.res E.lk t k = some (ra, rs) ∧ ∀ j, ra < j → j ≤ t → k ∈ nm' j from fun hb => by
          obtain ⟨⟨a, s⟩, hr⟩ := Option.isSome_iff_exists.1 (hbb.trans hb)
          have e1 : a = ra := by rw [← hra, hr]; rfl
          have e2 : s = rs := by rw [← hrs, hr]; rfl
          subst e1
          subst e2
          exact ⟨by rw [← hiv, ← hnm]; simp [capRes, hr], hr, fun j h1 h2 => by rw [← hnm]; exact Pl.mem_after hr h1 h2⟩)
        have HInv' := hide (hnm ▸ HInv.out.after t k hk5)
        have hname := name_any k hk5 wr
        have hlens := lens_any HE.out HQ.out E.N
        have hc1 := fun w3 (hQ3 : Q E w1 w3 nm cv) => capture_any HE.out t htn k hk5 (w3.alloc (nameObj k)) nm cv w3.heap.size HInv.out (hQ3.alloc _) (heap_alloc_new _ _)
        have hfind := fun w4 cv4 (hQ4 : Q E w1 w4 nm' cv4) => find_any HE.out hQ4 (Nat.le_of_lt htn) hk5 E.N
        rw [hns] at hname
        simp only [hns, hra, hrs, hbb] at hfind
        simp only [nameObj, hns, hiv, hbb, hnm] at hc1
        have HName := hide hname
        have HFind := hide hfind
        have HLens := hide hlens
        have HC1 := hide hc1
        clear hname hfind hlens hc1 hns hra hrs hbb hiv hnm
        go_wp2_with fail
        refine HName.out.mono ?_
        rintro e wr ⟨rfl, rfl⟩
        clear q1 HName
        go_wp2_with fail
        refine HLens.out.mono ?_
        rintro e w3 ⟨rfl, hb3, hr3⟩
        have hQ3 := HQ.out.on hb3
        have p3 := hQ3.ss.cell htn
        have HR3 := hide hr3
        have HQ3 := hide hQ3
        clear hb3 hr3 hQ3 HLens
        go_wp2_with fail
        refine (HC1.out w3 HQ3.out).mono ?_
        rintro e w4 ⟨rfl, cv4, hQ4, hK4⟩
        have HR4 := hide (row_kept (HQ3.out.alloc _) hK4 (HR3.out.of_block (Below.heap_alloc _ _ _ HR3.out.lt)))
        have HL4 := hide (lens_any HE.out hQ4 E.N)
        have HF4 := hide (HFind.out w4 cv4 hQ4)
        have HQ4 := hide hQ4
        clear hK4 hQ4 HR3 HC1 p3 HFind HQ HQ3
        go_wp2_with fail
        refine HF4.out.mono ?_
        rintro e wf ⟨rfl, hwf⟩
        subst hwf
        clear HF4
        go_upto_if 83 with fail
        go_cut [17, 18, 19, 20, 21] from 83 to 158 (fun s17 s18 s19 s20 s21 wc => Hid (Q E w1 wc nm' cv4))
        case first =>
          cases bb with
          | false =>
            obtain ⟨rfl, rfl⟩ := HNo.out rfl
            clear HNo HYes
            go_wp2_with fail
            refine HL4.out.mono ?_
            rintro e w5 ⟨rfl, hb5, hr5⟩
            have HRnd := hide (show Rnd E w1 w5 nm' nm' cv4 wr.heap.size wf.heap.size wf.heap.size from ⟨HQ4.out.on hb5, row_below hb5 HR4.out, hr5, hr5⟩)
            clear hb5 hr5 HL4 HQ4 HR4
            go_wp2_with fail
            go_loopg [93] E.N (fun g s93 wx => ∃ (j : Nat), j ≤ E.N ∧ g = E.N - j ∧ s93 = .int .i64 (j : Int) ∧ Hid (Rnd E w1 wx nm' nm' cv4 wr.heap.size wf.heap.size wf.heap.size))
            case atStart => exact ⟨0, Nat.zero_le _, rfl, rfl, HRnd⟩
            case round =>
              obtain ⟨j, hj, rfl, rfl, HRn⟩ := hrel
              clear HRnd
              by_cases hjn : j < E.N
              · have ca := HRn.out.ra.cell hjn
                have cb := HRn.out.rb.cell hjn
                have hjz : (j : Int) < (E.N : Int) := by omega
                go_wp2
                go_quiet (fail)
                go_wp2
                go_roundg (E.N - (j + 1))
                case measure => omega
                case rel => exact ⟨j + 1, by omega, rfl, by go_num, hide (HRn.out.drewN _)⟩
              · go_wp2
                go_meet
                exact hide HRn.out.q
          | true =>
            obtain ⟨hiv, hres, hmem⟩ := HYes.out rfl
            subst hiv
            have hat := (Pl.res_lt t k ra rs hres).1
            have HRes := hide hres
            have HMem := hide hmem
            clear HNo HYes hres hmem HL4 HR4
            go_wp2_with fail
            go_loopg [19, 20] t (fun g s19 s20 wx => ∃ (cur : Nat), ra < cur ∧ cur ≤ t ∧ g = cur ∧ s19 = .int .i64 (cur : Int) ∧ s20 = .int .i64 ((nm' cur).idxOf k : Int) ∧ Hid (Q E w1 wx nm' cv4))
            case atStart => exact ⟨t, hat, Nat.le_refl _, rfl, rfl, rfl, HQ4⟩
            case round =>
              obtain ⟨cur, hc1, hc2, rfl, rfl, rfl, HQc⟩ := hrel
              clear HQ4
              obtain ⟨g, c, cl, ci, y1, y2, y3, y4, y5⟩ := chain_at HQc.out htn HRes.out HMem.out hc1 hc2
              have hcn : gk < E.N := by omega
              have y6 := HQc.out.ss.cell hcn
              have y7 : wr.cell? ⟨E.sb gk, 0, none⟩ = some (.pointer (some ⟨E.fb gk, 0, none⟩)) := by simp [World.cell?, HQc.out.scp gk hcn, scpObj]
              have hz1 : (gk : Int) < (E.N : Int) := by omega
              obtain ⟨ix, hix⟩ : ∃ ix, (nm' gk).idxOf k = ix := ⟨_, rfl⟩
              obtain ⟨ln, hln⟩ : ∃ ln, (nm' gk).length = ln := ⟨_, rfl⟩
              rw [hix, hln] at y2
              rw [hix] at y3 y4
              rw [hln] at y1
              rw [hix]
              have l5 := HInv'.out.le5 gk
              rw [hln] at l5
              clear hix hln
              have hz2 : ¬ (ln : Int) ≤ (ix : Int) := by omega
              rcases y5 with ⟨e1, e2, e3⟩ | ⟨e1, e2, e3⟩
              · subst e1
                subst e2
                subst e3
                have hs1 : ((ra + 1 : Nat) : Int) - 1 = (ra : Int) := by omega
                have HQd := hide (HQc.out.alloc (.cells #[.bool true, .int .i64 (ci : Int)] 53))
                clear HQc
                go_wp2
                go_meet
                exact HQd
              · subst e2
                obtain ⟨m, hm⟩ : ∃ m, gk = m + 1 := ⟨gk - 1, by omega⟩
                subst hm
                have hs1 : ((m + 1 : Nat) : Int) - 1 = (m : Int) := by omega
                have hs2 : ¬ (m : Int) ≤ (ra : Int) := by omega
                have HQd := hide (HQc.out.alloc (.cells #[.bool false, .int .i64 (ci : Int)] 53))
                have HE3 := hide e3
                clear HQc e3
                go_wp2
                go_roundg m
                case measure => omega
                case rel => exact ⟨m, by omega, by omega, rfl, rfl, by rw [HE3.out]; rfl, HQd⟩
        case rest =>
          have HQ5 := hcut
          clear HL4 HQ4 HR4 HNo HYes
          go_wp2
          go_loopg [161] E.N (fun g s161 wx => ∃ (j : Nat), j ≤ E.N ∧ g = E.N - j ∧ s161 = .int .i64 (j : Int) ∧ Hid (Q E w1 wx nm' cv4))
          case atStart => exact ⟨0, Nat.zero_le _, rfl, rfl, HQ5⟩
          case round =>
            obtain ⟨j, hj, rfl, rfl, HQj⟩ := hrel
            clear HQ5
            by_cases hjn : j < E.N
            · have y6 := HQj.out.ss.cell hjn
              have HCo := hide (consistent_any HE.out HInv'.out HQj.out hjn)
              have hjz : (j : Int) < (E.N : Int) := by omega
              go_wp2_with fail
              refine HCo.out.mono ?_
              rintro e w9 ⟨rfl, hb9⟩
              have HQ9 := hide (HQj.out.on hb9)
              clear hb9 HCo y6
              go_wp2_with fail
              go_roundg (E.N - (j + 1))
              case measure => omega
              case rel => exact ⟨j + 1, by omega, rfl, by go_num, HQ9⟩
            · go_wp2
              go_roundg (qn - (i + 1))
              case measure => omega
              case rel => exact ⟨i + 1, nm', cv4, by omega, rfl, by go_num, HInv', HQj⟩
      · go_wp2
        go_ret
        exact ⟨rfl, HB1.out.trans (HQ.out.below.mono HB1.out.size)⟩

set_option maxRecDepth 100000 in
theorem chain_out (a0 : Option Addr) (n c : Nat) (qa : Option Addr) (qn qc : Nat) (w : World) (h : n = 0 ∨ 64 < n ∨ 1024 < qn) :
    Calls Ybaf.prog 3 #[.slice a0 n c, .slice qa qn qc] w fun e w' => e = .returned (.bool true) ∧ Below w.heap.size w w' := by
  by_cases h0 : n = 0
  · subst h0
    go_enter Ybaf.func3, Ybaf.ntmps3
    go_wp2_with fail
    go_ret
    exact ⟨rfl, Below.refl _ _⟩
  · have n0 : ((n : Int) == 0) = false := by simp; omega
    by_cases h1 : 64 < n
    · have n1 : (64 : Int) < (n : Int) := by omega
      go_enter Ybaf.func3, Ybaf.ntmps3
      go_wp2_with fail
      go_ret
      exact ⟨rfl, Below.refl _ _⟩
    · have n1 : ¬ (64 : Int) < (n : Int) := by omega
      have n2 : (1024 : Int) < (qn : Int) := by omega
      go_enter Ybaf.func3, Ybaf.ntmps3
      go_wp2_with fail
      go_ret
      exact ⟨rfl, Below.refl _ _⟩

theorem chain_walk {I : In} {w : World} (hI : I.Ok w) {qa : Option Addr} {qn qc qb qo : Nat} {qx : Nat → Nat} (hq : QRow w qa qn qb qo qx) :
    Calls Ybaf.prog 3 #[.slice I.a0 I.N I.cap, .slice qa qn qc] w fun e w' => e = .returned (.bool true) ∧ Below w.heap.size w w' := by
  by_cases h : I.N = 0 ∨ 64 < I.N ∨ 1024 < qn
  · exact chain_out _ _ _ _ _ _ w h
  · exact chain_main hI (by omega) (by omega) hq (by omega)

end Go.Proofs.YbulkaqqFmt
