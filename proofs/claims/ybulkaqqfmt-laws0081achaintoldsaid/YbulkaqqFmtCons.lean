import Derived.Test.YbulkaqqFmtRepeat
namespace Go.Proofs.YbulkaqqFmt
open Go.RowKit Go.Maps

theorem idxOf_nodup : ∀ {l : List Nat}, l.Nodup → ∀ {j : Nat} (hj : j < l.length), l.idxOf l[j] = j
  | [], _, _, hj => absurd hj (Nat.not_lt_zero _)
  | a :: l, h, 0, _ => by simp
  | a :: l, h, j + 1, hj => by
    have hn := List.nodup_cons.1 h
    have hj' : j < l.length := by simpa using hj
    have hne : a ≠ l[j] := fun e => hn.1 (e ▸ List.getElem_mem hj')
    have ih := idxOf_nodup hn.2 hj'
    rw [List.getElem_cons_succ, List.idxOf_cons]
    rw [ih, show (a == l[j]) = false from beq_false_of_ne hne]
    rfl

/-- The j-th capture of a scope, and where its map has it. -/
theorem cap_at {E : Env} {base : Nat} (hE : EOk E base) {nm : Nat → List Nat} (hI : Pl.Inv E.lk nm) (i : Nat) {j : Nat} (hj : j < (nm i).length) :
    ∃ c : Bool × Nat, (Pl.caps E.lk nm i)[j]? = some c ∧ capOk c ∧ capIdx (Pl.caps E.lk nm i) c = some j := by
  have hm : (nm i)[j] ∈ nm i := List.getElem_mem hj
  have hk := hI.lt5 i _ hm
  have hv := hI.valid hm
  refine ⟨Pl.capOf E.lk nm i (nm i)[j], ?_, capOf_ok hE hI i _, ?_⟩
  · simp [Pl.caps, hj]
  · rw [capIdx, if_pos ((Pl.mem_caps hE.inj hI hk hv).2 hm), Pl.idxOf_caps hE.inj hI hk hv, idxOf_nodup (hI.nodup i) hj]

/-- The cells of a scope's captures. -/
theorem cap_cells {E : Env} {w wr : World} {nm : Nat → List Nat} {cv : Nat → Value} (hQ : Q E w wr nm cv) {i : Nat} (hi : i < E.N) : ∃ (ao : Option Addr) (g c : Nat), cv i = .slice ao (nm i).length c ∧ (0 < (nm i).length → ao = some ⟨g, 0, none⟩) ∧
    ∀ j x, (Pl.caps E.lk nm i)[j]? = some x → wr.cell? ⟨g, j * 2, none⟩ = some (.bool x.1) ∧ wr.cell? ⟨g, j * 2 + 1, none⟩ = some (.int .i64 (x.2 : Int)) := by
  have hc := hQ.cap i hi
  rcases hc.2 with ⟨h1, h2⟩ | ⟨g, cap, cur, hv, hg, hh, hle, _, hsz, htk⟩
  · refine ⟨none, 0, 0, by rw [h1, h2], fun h => by omega, fun j x hx => ?_⟩
    have : j < (Pl.caps E.lk nm i).length := (List.getElem?_eq_some_iff.1 hx).1
    rw [Pl.caps_length] at this
    omega
  · refine ⟨some ⟨g, 0, none⟩, g, cap, hv, fun _ => rfl, fun j x hx => ?_⟩
    have hj : j < (Pl.caps E.lk nm i).length := (List.getElem?_eq_some_iff.1 hx).1
    rw [Pl.caps_length] at hj
    obtain ⟨e1, e2⟩ := flatC_at _ j x hx
    rw [← htk, List.getElem?_take_of_lt (by omega)] at e1 e2
    refine ⟨?_, ?_⟩
    · simp only [World.cell?, hh]; simpa using e1
    · simp only [World.cell?, hh]; simpa using e2

set_option maxHeartbeats 800000 in
theorem consistent_any {E : Env} {base : Nat} (hE : EOk E base) {w w1 : World} {nm : Nat → List Nat} {cv : Nat → Value} (hI : Pl.Inv E.lk nm) (hQ : Q E w w1 nm cv) {i : Nat} (hi : i < E.N) :
    Calls Ybaf.prog 11 #[.pointer (some ⟨E.sb i, 0, none⟩)] w1 fun e w' => e = .returned (.bool true) ∧ Below w1.heap.size w1 w' := by
  obtain ⟨ao, g, cc, hcv, hao, hcell⟩ := cap_cells hQ hi
  have l5 := hI.le5 i
  have s0 : w1.cell? ⟨E.sb i, 0, none⟩ = some (.pointer (some ⟨E.fb i, 0, none⟩)) := by simp [World.cell?, hQ.scp i hi, scpObj]
  have s4 : w1.cell? ⟨E.sb i, 4, none⟩ = some (.map (some (E.cb i))) := by simp [World.cell?, hQ.scp i hi, scpObj]
  have f4 : w1.cell? ⟨E.fb i, 4, none⟩ = some (.slice ao (nm i).length cc) := by simp [World.cell?, hQ.fn i hi, funObj, hcv]
  have hlen := fun q ty => ((hQ.drewN q).cmap i hi).len Ybaf.underlying49 ty
  have HCell := hide hcell
  have HAt := hide (fun j (hj : j < (nm i).length) => cap_at hE hI i hj)
  obtain ⟨n, hn⟩ : ∃ n, (nm i).length = n := ⟨_, rfl⟩
  rw [hn] at l5 f4 hao HAt hlen
  have HQ := hide hQ
  have HCv := hide hcv
  clear hcell hcv hQ hI hE hn
  go_enter Ybaf.func11, Ybaf.ntmps11
  go_wp2
  go_quiet (fail)
  go_wp2
  clear hlen
  go_loopg [29] n (fun gh s29 wx => ∃ (j : Nat), j ≤ n ∧ gh = n - j ∧ s29 = .int .i64 (j : Int) ∧ Below w1.heap.size w1 wx)
  case atStart => exact ⟨0, Nat.zero_le _, rfl, rfl, below_drewN (Below.refl _ _) _⟩
  case round =>
    obtain ⟨j, hj, rfl, rfl, hb⟩ := hrel
    by_cases hjn : j < n
    · obtain rfl := hao (by omega)
      obtain ⟨⟨cl, ci⟩, hx, hok, hix⟩ := HAt.out j hjn
      have hQr := HQ.out.on hb
      obtain ⟨x0, x1⟩ := HCell.out j _ hx
      obtain ⟨y, hy⟩ := own_row (HQ.out.cap i hi) (k := g) (by rw [HCv.out]; rfl)
      have hgl : g < w1.heap.size := (Array.getElem?_eq_some_iff.1 hy).1
      have c0 : wr.cell? ⟨g, j * 2, none⟩ = some (.bool cl) := (hb.cell hgl).trans x0
      have c1 : wr.cell? ⟨g, j * 2 + 1, none⟩ = some (.int .i64 (ci : Int)) := (hb.cell hgl).trans x1
      have hsl : E.sb i < w1.heap.size := (Array.getElem?_eq_some_iff.1 (HQ.out.scp i hi)).1
      have t4 : wr.cell? ⟨E.sb i, 4, none⟩ = some (.map (some (E.cb i))) := (hb.cell hsl).trans s4
      have hz0 := hb.size
      have hsl2 : E.sb i < wr.heap.size := by omega
      have hlook := fun q => look_cap (((hQr.alloc (.cells #[.bool cl, .int .i64 (ci : Int)] 53)).drewN q).cmap i hi) hok
      rw [hix] at hlook
      simp only [Option.getD_some, Option.isSome_some] at hlook
      have hzj : (j : Int) < (n : Int) := by omega
      have HB := hide hb
      clear hx hok hix hQr x0 x1 hy hb
      go_wp2
      go_quiet (fail)
      go_wp2
      go_roundg (n - (j + 1))
      case measure => omega
      case rel => exact ⟨j + 1, by omega, rfl, by go_num, below_drewN (HB.out.alloc hz0 _) _⟩
    · go_wp2
      go_ret
      exact ⟨rfl, hb⟩

end Go.Proofs.YbulkaqqFmt
