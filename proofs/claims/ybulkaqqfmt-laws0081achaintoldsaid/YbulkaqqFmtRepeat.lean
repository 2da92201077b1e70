import Derived.Test.YbulkaqqFmtBuild
import Derived.Test.YbulkaqqFmtCapture
namespace Go.Proofs.YbulkaqqFmt
open Go.RowKit Go.Maps

theorem In.Ok.below {I : In} {w w' : World} (h : I.Ok w) (hb : Below w.heap.size w w') : I.Ok w' := by
  have hz := hb.size
  exact ⟨h.a0, fun h0 => Nat.lt_of_lt_of_le (h.blt h0) hz, fun i hi => (hb.cell (h.blt (by omega))).trans (h.row i hi), h.A, fun i hi hl => Nat.lt_of_lt_of_le (h.alt i hi hl) hz,
    fun i hi j hj => (hb.cell (h.alt i hi (by omega))).trans (h.arow i hi j hj), h.B, fun i hi j hj hm => Nat.lt_of_lt_of_le (h.blt2 i hi j hj hm) hz,
    fun i hi j hj l hl => (hb.cell (h.blt2 i hi j hj (by omega))).trans (h.brow i hi j hj l hl), h.x, h.Lb, h.Mb⟩

/-- The queries that came in. -/
structure QRow (w : World) (a : Option Addr) (n b o : Nat) (x : Nat → Nat) : Prop where
  a : 0 < n → a = some ⟨b, o, none⟩
  lt : 0 < n → b < w.heap.size
  row : ∀ i, i < n → w.cell? ⟨b, o + i, none⟩ = some (.int .u8 (x i : Int))
  x : ∀ i, x i < 256

theorem inv0 (lk : Nat → Nat → Option Nat) : Pl.Inv lk (fun _ => []) := ⟨fun _ => List.nodup_nil, fun _ k h => (by simp at h), rfl, fun _ k h => (by simp at h)⟩

theorem capRes_twice (lk : Nat → Nat → Option Nat) (t k : Nat) (nm : Nat → List Nat) : capRes lk t k (Pl.after lk t k nm) = capRes lk t k nm := by simp only [capRes, Pl.after_twice]

/-- The rows of lengths that a round holds. -/
structure Rnd (E : Env) (w wx : World) (nm nm' : Nat → List Nat) (cv : Nat → Value) (b m a : Nat) : Prop where
  q : Q E w wx nm' cv
  rb : wx.rowIs b 3 E.N (fun i => .int .i64 ((nm i).length : Int))
  rm : wx.rowIs m 3 E.N (fun i => .int .i64 ((nm' i).length : Int))
  ra : wx.rowIs a 3 E.N (fun i => .int .i64 ((nm' i).length : Int))

theorem Rnd.drewN {E : Env} {w wx : World} {nm nm' : Nat → List Nat} {cv : Nat → Value} {b m a : Nat} (h : Rnd E w wx nm nm' cv b m a) (q : Nat) : Rnd E w (wx.drewN q) nm nm' cv b m a := ⟨h.q.drewN q, h.rb, h.rm, h.ra⟩

theorem row_kept {E : Env} {w wr W : World} {nm : Nat → List Nat} {cv cv' : Nat → Value} (h : Q E w wr nm cv) (hK : Keep E cv cv' wr W) {b n : Nat} {f : Nat → Value} (hr : wr.rowIs b 3 n f) : W.rowIs b 3 n f := by
  obtain ⟨c, h1, h2, h3⟩ := hr
  exact ⟨c, h.kept hK h1 (by decide) (by decide), h2, h3⟩

theorem row_below {w W : World} (hb : Below w.heap.size w W) {b n : Nat} {t : TypeId} {f : Nat → Value} (hr : w.rowIs b t n f) : W.rowIs b t n f := hr.of_block (hb.block _ hr.lt)

/-- What 'after' adds at a scope: nothing, or one, and that only between. -/
theorem after_len {lk : Nat → Nat → Option Nat} {nm : Nat → List Nat} (t k j : Nat) :
    (Pl.after lk t k nm j).length = (nm j).length ∨ ((Pl.after lk t k nm j).length = (nm j).length + 1 ∧ (Pl.res lk t k).isSome = true ∧ j ≤ t ∧ resA (Pl.res lk t k) < j) := by
  cases h : Pl.res lk t k with
  | none => left; rw [Pl.after_none t k h]
  | some p =>
    obtain ⟨a, s⟩ := p
    rw [Pl.after_at t k a s h j]
    by_cases hc : a < j ∧ j ≤ t ∧ k ∉ nm j
    · right
      rw [if_pos hc]
      exact ⟨by simp, rfl, hc.2.1, hc.1⟩
    · left
      rw [if_neg hc]

set_option maxHeartbeats 1600000 in
set_option maxRecDepth 100000 in
theorem repeat_main {I : In} {w : World} (hI : I.Ok w) (hN : I.N ≤ 64) (h1 : 0 < I.N) {qa : Option Addr} {qn qc qb qo : Nat} {qx : Nat → Nat} (hq : QRow w qa qn qb qo qx) (hqn : qn ≤ 1024) :
    Calls Ybaf.prog 4 #[.slice I.a0 I.N I.cap, .slice qa qn qc] w fun e w' => e = .returned (.bool true) ∧ Below w.heap.size w w' := by
  have HI := hide hI
  have hqa := hq.a
  have HQR := hide hq
  obtain ⟨a0, hea0⟩ : ∃ a, I.a0 = a := ⟨_, rfl⟩
  obtain ⟨nn, hnn⟩ : ∃ n, I.N = n := ⟨_, rfl⟩
  obtain ⟨ac, hac⟩ : ∃ n, I.cap = n := ⟨_, rfl⟩
  have hsz := size_any hI hN
  have hbd := fun w1 (hb : Below w.heap.size w w1) => build_any (hI.below hb) hN h1
  rw [hea0, hnn, hac] at hsz
  rw [hea0, hnn, hac] at hbd
  rw [hea0, hnn, hac]
  rw [hnn] at hN h1
  have HSz := hide hsz
  have HBd := hide hbd
  clear hI hea0 hnn hac hsz hbd hq
  have n0 : ((nn : Int) == 0) = false := by simp; omega
  have n1 : ¬ (64 : Int) < (nn : Int) := by omega
  have n2 : ¬ (1024 : Int) < (qn : Int) := by omega
  go_enter Ybaf.func4, Ybaf.ntmps4
  go_wp2_with fail
  refine HSz.out.mono ?_
  rintro e w1 ⟨⟨z, rfl⟩, hb1⟩
  by_cases hz : (1024 : Int) < z
  · go_wp2_with fail
    go_ret
    exact ⟨rfl, hb1⟩
  · go_wp2_with fail
    refine (HBd.out w1 hb1).mono ?_
    rintro e w2 ⟨E, hEN, rfl, hE, hQ⟩
    subst hEN
    have HE := hide hE
    have HQ0 := hide hQ
    have HB1 := hide hb1
    clear hE hQ hb1 HSz HBd n1 n2 hz
    go_wp2
    go_loopg [44] qn (fun g s44 wx => ∃ (i : Nat) (nm : Nat → List Nat) (cv : Nat → Value), i ≤ qn ∧ g = qn - i ∧ s44 = .int .i64 (i : Int) ∧ Hid (Pl.Inv E.lk nm) ∧ Hid (Q E w1 wx nm cv))
    case atStart => exact ⟨0, _, _, Nat.zero_le _, rfl, rfl, hide (inv0 _), HQ0⟩
    case round =>
      obtain ⟨i, nm, cv, hi, rfl, rfl, HInv, HQ⟩ := hrel
      clear HQ0
      by_cases hin : i < qn
      · obtain rfl := hqa (by omega)
        have hlt := HQR.out.lt (by omega)
        have q1 : wr.cell? ⟨qb, qo + i, none⟩ = some (.int .u8 (qx i : Int)) := ((HQ.out.below.cell (show qb < w1.heap.size from Nat.lt_of_lt_of_le hlt HB1.out.size)).trans (HB1.out.cell hlt)).trans (HQR.out.row i hin)
        have hx := HQR.out.x i
        have hzi : (i : Int) < (qn : Int) := by omega
        have nz : (E.N : Int) ≠ 0 := by omega
        obtain ⟨x, hex⟩ : ∃ x, qx i = x := ⟨_, rfl⟩
        rw [hex] at q1 hx
        clear hex
        obtain ⟨t, ht⟩ : ∃ t, x / 5 % E.N = t := ⟨_, rfl⟩
        have htn : t < E.N := ht ▸ Nat.mod_lt _ h1
        have het : (x : Int) / 5 % (E.N : Int) = (t : Int) := by rw [← ht]; simp
        obtain ⟨k, hk⟩ : ∃ k, x % 5 = k := ⟨_, rfl⟩
        have hk5 : k < 5 := by omega
        have hek : (x : Int) % 5 = (k : Int) := by omega
        clear ht hk
        have hti : (t : Int) < (E.N : Int) := by omega
        obtain ⟨ns, hns⟩ : ∃ ns, nameS k = ns := ⟨_, rfl⟩
        obtain ⟨ra, hra⟩ : ∃ r, resA (Pl.res E.lk t k) = r := ⟨_, rfl⟩
        obtain ⟨rs, hrs⟩ : ∃ r, resS (Pl.res E.lk t k) = r := ⟨_, rfl⟩
        obtain ⟨bb, hbb⟩ : ∃ r, (Pl.res E.lk t k).isSome = r := ⟨_, rfl⟩
        obtain ⟨iv, hiv⟩ : ∃ r, capRes E.lk t k nm = r := ⟨_, rfl⟩
        obtain ⟨nm', hnm⟩ : ∃ r, Pl.after E.lk t k nm = r := ⟨_, rfl⟩
        have HRes := hide (show (∀ j, (nm' j).length = (nm j).length ∨ ((nm' j).length = (nm j).length + 1 ∧ bb = true ∧ j ≤ t ∧ ra < j)) from fun j => by
          rw [← hnm, ← hbb, ← hra]; exact after_len t k j)
        have HInv' := hide (hnm ▸ HInv.out.after t k hk5)
        have hiv' : capRes E.lk t k nm' = iv := by rw [← hnm, capRes_twice, hiv]
        have hnm' : Pl.after E.lk t k nm' = nm' := by rw [← hnm, Pl.after_twice]
        have hname := name_any k hk5 wr
        have hfind := find_any HE.out HQ.out (Nat.le_of_lt htn) hk5 E.N
        have hlens := lens_any HE.out HQ.out E.N
        have hc1 := fun w3 (hQ3 : Q E w1 w3 nm cv) => capture_any HE.out t htn k hk5 (w3.alloc (nameObj k)) nm cv w3.heap.size HInv.out (hQ3.alloc _) (heap_alloc_new _ _)
        have hc2 := fun w3 cv (hQ3 : Q E w1 w3 nm' cv) => capture_any HE.out t htn k hk5 (w3.alloc (nameObj k)) nm' cv w3.heap.size HInv'.out (hQ3.alloc _) (heap_alloc_new _ _)
        rw [hns] at hname
        rw [hns, hra, hrs, hbb] at hfind
        simp only [nameObj, hns, hiv, hbb, hnm] at hc1
        simp only [nameObj, hns, hiv', hbb, hnm'] at hc2
        have HName := hide hname
        have HFind := hide hfind
        have HLens := hide hlens
        have HC1 := hide hc1
        have HC2 := hide hc2
        clear hname hfind hlens hc1 hc2 hns hra hrs hbb hiv hnm hiv' hnm'
        go_wp2_with fail
        refine HName.out.mono ?_
        rintro e wr ⟨rfl, rfl⟩
        clear q1 HName
        go_wp2_with fail
        refine HFind.out.mono ?_
        rintro e wr ⟨rfl, rfl⟩
        clear HFind
        go_wp2_with fail
        refine HLens.out.mono ?_
        rintro e w3 ⟨rfl, hb3, hr3⟩
        have hQ3 := HQ.out.on hb3
        have p3 := hQ3.ss.cell htn
        have HR3 := hide hr3
        have HQ3 := hide hQ3
        clear hb3 hr3 hQ3 HLens
        go_wp2_with fail
        refine (HC1.out w3 HQ3.out).mono ?_
        rintro e w4 ⟨rfl, cv4, hQ4, hK4⟩
        have HR4 := hide (row_kept (HQ3.out.alloc _) hK4 (HR3.out.of_block (Below.heap_alloc _ _ _ HR3.out.lt)))
        have HL4 := hide (lens_any HE.out hQ4 E.N)
        have HQ4 := hide hQ4
        clear hK4 hQ4 HR3 HC1 p3
        go_wp2_with fail
        refine HL4.out.mono ?_
        rintro e w5 ⟨rfl, hb5, hr5⟩
        have hQ5 := HQ4.out.on hb5
        have p5 := hQ5.ss.cell htn
        have HR5 := hide (row_below hb5 HR4.out)
        have HM5 := hide hr5
        have HQ5 := hide hQ5
        clear hb5 hr5 hQ5 HL4
        go_wp2_with fail
        refine (HC2.out w5 cv4 HQ5.out).mono ?_
        rintro e w6 ⟨rfl, cv6, hQ6, hK6⟩
        have HR6 := hide (row_kept (HQ5.out.alloc _) hK6 (HR5.out.of_block (Below.heap_alloc _ _ _ HR5.out.lt)))
        have HM6 := hide (row_kept (HQ5.out.alloc _) hK6 (HM5.out.of_block (Below.heap_alloc _ _ _ HM5.out.lt)))
        have HL6 := hide (lens_any HE.out hQ6 E.N)
        have HQ6 := hide hQ6
        clear hK6 hQ6 HR5 HM5 HC2 p5
        go_wp2_with fail
        refine HL6.out.mono ?_
        rintro e w7 ⟨rfl, hb7, hr7⟩
        have HRnd := hide (show Rnd E w1 w7 nm nm' cv6 wr.heap.size w4.heap.size w6.heap.size from ⟨HQ6.out.on hb7, row_below hb7 HR6.out, row_below hb7 HM6.out, hr7⟩)
        clear hb7 hr7 HL6 HQ HQ3 HQ4 HQ5 HQ6 HR4 HR6 HM6
        go_wp2_with fail
        go_loopg [119] E.N (fun g s119 wx => ∃ (j : Nat), j ≤ E.N ∧ g = E.N - j ∧ s119 = .int .i64 (j : Int) ∧ Hid (Rnd E w1 wx nm nm' cv6 wr.heap.size w4.heap.size w6.heap.size))
        case atStart => exact ⟨0, Nat.zero_le _, rfl, rfl, HRnd⟩
        case round =>
          obtain ⟨j, hj, rfl, rfl, HRn⟩ := hrel
          clear HRnd
          by_cases hjn : j < E.N
          · have ca := HRn.out.ra.cell hjn
            have cm := HRn.out.rm.cell hjn
            have cb := HRn.out.rb.cell hjn
            have hjz : (j : Int) < (E.N : Int) := by omega
            have l5 := HInv.out.le5 j
            have HL := hide (HRes.out j)
            obtain ⟨la, hla⟩ : ∃ l, (nm j).length = l := ⟨_, rfl⟩
            obtain ⟨lb, hlb⟩ : ∃ l, (nm' j).length = l := ⟨_, rfl⟩
            rw [hlb] at ca cm
            rw [hla] at cb l5
            rw [hla, hlb] at HL
            clear hla hlb
            rcases HL.out with h | ⟨h, hb, h2, h3⟩
            · subst h
              clear HL
              have hd : (lb : Int) - (lb : Int) = 0 := by omega
              go_wp2
              go_quiet (fail)
              go_wp2
              go_quiet (fail)
              go_wp2
              go_roundg (E.N - (j + 1))
              case measure => omega
              case rel => exact ⟨j + 1, by omega, rfl, by go_num, hide (HRn.out.drewN _)⟩
            · subst h
              subst hb
              clear HL
              have hd : ((la + 1 : Nat) : Int) - (la : Int) = 1 := by omega
              have hjt : ¬ (t : Int) < (j : Int) := by omega
              have hjr : ¬ (j : Int) ≤ (ra : Int) := by omega
              go_wp2
              go_quiet (fail)
              go_wp2
              go_quiet (fail)
              go_wp2
              go_roundg (E.N - (j + 1))
              case measure => omega
              case rel => exact ⟨j + 1, by omega, rfl, by go_num, hide (HRn.out.drewN _)⟩
          · go_wp2
            go_roundg (qn - (i + 1))
            case measure => omega
            case rel => exact ⟨i + 1, nm', cv6, by omega, rfl, by go_num, HInv', hide HRn.out.q⟩
      · go_wp2
        go_ret
        exact ⟨rfl, HB1.out.trans (HQ.out.below.mono HB1.out.size)⟩

set_option maxRecDepth 100000 in
theorem repeat_out (a0 : Option Addr) (n c : Nat) (qa : Option Addr) (qn qc : Nat) (w : World) (h : n = 0 ∨ 64 < n ∨ 1024 < qn) :
    Calls Ybaf.prog 4 #[.slice a0 n c, .slice qa qn qc] w fun e w' => e = .returned (.bool true) ∧ Below w.heap.size w w' := by
  by_cases h0 : n = 0
  · subst h0
    go_enter Ybaf.func4, Ybaf.ntmps4
    go_wp2_with fail
    go_ret
    exact ⟨rfl, Below.refl _ _⟩
  · have n0 : ((n : Int) == 0) = false := by simp; omega
    by_cases h1 : 64 < n
    · have n1 : (64 : Int) < (n : Int) := by omega
      go_enter Ybaf.func4, Ybaf.ntmps4
      go_wp2_with fail
      go_ret
      exact ⟨rfl, Below.refl _ _⟩
    · have n1 : ¬ (64 : Int) < (n : Int) := by omega
      have n2 : (1024 : Int) < (qn : Int) := by omega
      go_enter Ybaf.func4, Ybaf.ntmps4
      go_wp2_with fail
      go_ret
      exact ⟨rfl, Below.refl _ _⟩

theorem repeat_walk {I : In} {w : World} (hI : I.Ok w) {qa : Option Addr} {qn qc qb qo : Nat} {qx : Nat → Nat} (hq : QRow w qa qn qb qo qx) :
    Calls Ybaf.prog 4 #[.slice I.a0 I.N I.cap, .slice qa qn qc] w fun e w' => e = .returned (.bool true) ∧ Below w.heap.size w w' := by
  by_cases h : I.N = 0 ∨ 64 < I.N ∨ 1024 < qn
  · exact repeat_out _ _ _ _ _ _ w h
  · exact repeat_main hI (by omega) (by omega) hq (by omega)

end Go.Proofs.YbulkaqqFmt
