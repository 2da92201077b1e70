import Derived.Test.YbulkaqqFmtLookup
namespace Go.Proofs.YbulkaqqFmt
open Go.RowKit Go.Maps

def resA (r : Option (Nat × Nat)) : Nat := (r.map (·.1)).getD 0
def resS (r : Option (Nat × Nat)) : Nat := (r.map (·.2)).getD 0

theorem res_some {lk : Nat → Nat → Option Nat} {t k s : Nat} (h : lk t k = some s) : Pl.res lk (t + 1) k = some (t, s) := by simp [Pl.res, h]
theorem res_step {lk : Nat → Nat → Option Nat} {t k : Nat} (h : lk t k = none) : Pl.res lk (t + 1) k = Pl.res lk t k := by simp [Pl.res, h]

set_option maxHeartbeats 800000 in
theorem find_any {E : Env} {base : Nat} (hE : EOk E base) {w wr : World} {nm : Nat → List Nat} {cv : Nat → Value} (hQ : Q E w wr nm cv) {t : Nat} (ht : t ≤ E.N) {k : Nat} (hk : k < 5) (cap : Nat) :
    Calls Ybaf.prog 10 #[.slice (some ⟨E.SS, 0, none⟩) E.N cap, .int .i64 (t : Int), .string (nameS k)] wr fun e w' =>
      e = .returned (.tuple #[.int .i64 (resA (Pl.res E.lk t k) : Int), .int .i64 (resS (Pl.res E.lk t k) : Int), .bool (Pl.res E.lk t k).isSome]) ∧ w' = wr := by
  have hN := hE.le
  obtain ⟨ns, hns⟩ : ∃ ns, nameS k = ns := ⟨_, rfl⟩
  have HF := hide (show (∀ a, a < E.N → wr.cell? ⟨E.SS, a, none⟩ = some (.pointer (some ⟨E.sb a, 0, none⟩)) ∧ ∃ ao c, wr.cell? ⟨E.sb a, 2, none⟩ = some (.slice ao (E.nb a) c) ∧ (0 < E.nb a → ao = some ⟨E.bg a, 0, none⟩) ∧ E.nb a < 4611686018427387904 ∧
      (∀ r, r < E.nb a → wr.cell? ⟨E.bg a, r, none⟩ = some (.map (some (E.mb a r))) ∧ (Instr.lookup 59 (.map (some (E.mb a r))) (.string ns) true).run Ybaf.prog wr = .ok (.tuple #[.int .i64 (((E.mf a r k).getD 0 : Nat) : Int), .bool (E.mf a r k).isSome]) wr)) from by
    intro a ha
    obtain ⟨ao, c, hbv, hao⟩ := hE.bform a ha
    refine ⟨hQ.ss.cell ha, ao, c, by simp [World.cell?, hQ.scp a ha, scpObj, hbv], hao, hE.nbB a ha, fun r hr => ?_⟩
    obtain ⟨cs, h1, h2⟩ := hQ.brow a ha (by omega)
    obtain ⟨m, hm⟩ := hQ.bmap a ha r hr
    refine ⟨by simp [World.cell?, h1, h2 r hr], ?_⟩
    rw [← hns]
    exact look_name hm hk)
  rw [hns]
  clear hns hQ hE
  go_enter Ybaf.func10, Ybaf.ntmps10
  go_wp2
  go_loopg [9] t (fun g s9 wx => wr = wx ∧ ∃ r : Nat, r ≤ t ∧ g = r ∧ s9 = .int .i64 ((r : Int) - 1) ∧ Hid (Pl.res E.lk r k = Pl.res E.lk t k))
  case atStart => exact ⟨rfl, t, Nat.le_refl _, rfl, rfl, hide rfl⟩
  case round =>
    obtain ⟨rfl, r, hr, rfl, rfl, HR⟩ := hrel
    cases gk with
    | zero =>
      go_wp2
      go_ret3
      exact ⟨by rw [← unhide HR]; rfl, rfl⟩
    | succ a =>
      obtain ⟨p1, ao, c, p2, hao, hnb, HB0⟩ := unhide HF a (by omega)
      have HB := hide HB0
      clear HB0
      obtain ⟨n, hn⟩ : ∃ n, E.nb a = n := ⟨_, rfl⟩
      have HL := hide (show E.lk a k = lkB (E.mf a) n k by rw [← hn]; rfl)
      rw [hn] at p2 hao hnb HB
      clear hn
      have e1 : ((a + 1 : Nat) : Int) - 1 = (a : Int) := by omega
      rw [e1]
      have haz : (a : Int) < (E.N : Int) := by omega
      go_wp2
      go_loopg [10] n (fun g s10 wx => wr = wx ∧ ∃ r : Nat, r ≤ n ∧ g = r ∧ s10 = .int .i64 ((r : Int) - 1) ∧ Hid (lkB (E.mf a) r k = lkB (E.mf a) n k))
      case atStart => exact ⟨rfl, n, Nat.le_refl _, rfl, rfl, hide rfl⟩
      case round =>
        obtain ⟨rfl, r, hr, rfl, rfl, HR2⟩ := hrel
        cases gk with
        | zero =>
          go_wp2
          go_roundg a
          case measure => omega
          case rel => exact ⟨rfl, a, by omega, rfl, rfl, hide (by rw [← unhide HR, res_step (by rw [unhide HL, ← unhide HR2]; rfl)])⟩
        | succ r =>
          obtain ⟨b1, b2⟩ := unhide HB r (by omega)
          obtain rfl := hao (by omega)
          have e2 : ((r + 1 : Nat) : Int) - 1 = (r : Int) := by omega
          rw [e2]
          have hz : (r : Int) < (n : Int) := by omega
          cases hm : E.mf a r k with
          | some s =>
            have HM := hide hm
            rw [hm] at b2
            simp only [Option.getD_some, Option.isSome_some] at b2
            clear hm
            go_wp2
            go_ret3
            exact ⟨by rw [← unhide HR, res_some (by rw [unhide HL, ← unhide HR2, lkB_some (unhide HM)])]; rfl, rfl⟩
          | none =>
            have HM := hide hm
            rw [hm] at b2
            simp only [Option.getD_none, Option.isSome_none] at b2
            clear hm
            go_wp2
            go_roundg r
            case measure => omega
            case rel => exact ⟨rfl, r, by omega, rfl, rfl, hide (by rw [← unhide HR2, lkB_none (unhide HM)])⟩

end Go.Proofs.YbulkaqqFmt
