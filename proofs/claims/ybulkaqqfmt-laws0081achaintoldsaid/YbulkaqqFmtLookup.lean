import Derived.Test.YbulkaqqFmtState
import Derived.Deep.LoopGhost
import Derived.BigQuiet
namespace Go.Proofs.YbulkaqqFmt
open Go.RowKit Go.Maps

set_option maxHeartbeats 400000 in
theorem name_any (k : Nat) (hk : k < 5) (w : World) : Calls Ybaf.prog 7 #[.int .i64 (k : Int)] w fun e w' => e = .returned (.string (nameS k)) ∧ w' = w := by
  match k, hk with
  | 0, _ => go_enter Ybaf.func7, Ybaf.ntmps7; go_wp2; go_ret; exact ⟨rfl, rfl⟩
  | 1, _ => go_enter Ybaf.func7, Ybaf.ntmps7; go_wp2; go_ret; exact ⟨rfl, rfl⟩
  | 2, _ => go_enter Ybaf.func7, Ybaf.ntmps7; go_wp2; go_ret; exact ⟨rfl, rfl⟩
  | 3, _ => go_enter Ybaf.func7, Ybaf.ntmps7; go_wp2; go_ret; exact ⟨rfl, rfl⟩
  | 4, _ => go_enter Ybaf.func7, Ybaf.ntmps7; go_wp2; go_ret; exact ⟨rfl, rfl⟩

/-- A look-up in a block's map, in the words of the walk. -/
theorem look_name {w : World} {b n : Nat} {f : Nat → Option Nat} (h : MapIs Ybaf.prog 9 nameLit nameOk w b n f) {k : Nat} (hk : k < 5) :
    (Instr.lookup 59 (.map (some b)) (.string (nameS k)) true).run Ybaf.prog w = .ok (.tuple #[.int .i64 (((f k).getD 0 : Nat) : Int), .bool (f k).isSome]) w :=
  h.look nameKeyed Ybaf.underlying59 Ybaf.underlying3 zero3 hk (nameKey k)

theorem lkB_none {mf : Nat → Nat → Option Nat} {n k : Nat} (h : mf n k = none) : lkB mf (n + 1) k = lkB mf n k := by simp [lkB, h]
theorem lkB_some {mf : Nat → Nat → Option Nat} {n k s : Nat} (h : mf n k = some s) : lkB mf (n + 1) k = some s := by simp [lkB, h]

set_option maxHeartbeats 400000 in
theorem lookup_any {E : Env} {base : Nat} (hE : EOk E base) {w wr : World} {nm : Nat → List Nat} {cv : Nat → Value} (hQ : Q E w wr nm cv) {i : Nat} (hi : i < E.N) {k : Nat} (hk : k < 5) :
    Calls Ybaf.prog 12 #[.pointer (some ⟨E.sb i, 0, none⟩), .string (nameS k)] wr fun e w' => e = .returned (.tuple #[.int .i64 (((E.lk i k).getD 0 : Nat) : Int), .bool (E.lk i k).isSome]) ∧ w' = wr := by
  obtain ⟨ao, c, hbv, hao⟩ := hE.bform i hi
  have hnb := hE.nbB i hi
  have c2 : wr.cell? ⟨E.sb i, 2, none⟩ = some (.slice ao (E.nb i) c) := by simp [World.cell?, hQ.scp i hi, scpObj, hbv]
  obtain ⟨ns, hns⟩ : ∃ ns, nameS k = ns := ⟨_, rfl⟩
  obtain ⟨n, hn⟩ : ∃ n, E.nb i = n := ⟨_, rfl⟩
  have HL := hide (show E.lk i k = lkB (E.mf i) n k by rw [← hn]; rfl)
  rw [hn] at c2 hao hnb
  have hrow := hQ.brow i hi
  have hmap := hQ.bmap i hi
  rw [hn] at hrow hmap
  have HB := hide (show (∀ r, r < n → wr.cell? ⟨E.bg i, r, none⟩ = some (.map (some (E.mb i r))) ∧ (Instr.lookup 59 (.map (some (E.mb i r))) (.string ns) true).run Ybaf.prog wr = .ok (.tuple #[.int .i64 (((E.mf i r k).getD 0 : Nat) : Int), .bool (E.mf i r k).isSome]) wr) from by
    intro r hr
    obtain ⟨cs, h1, h2⟩ := hrow (by omega)
    obtain ⟨m, hm⟩ := hmap r hr
    refine ⟨by simp [World.cell?, h1, h2 r hr], ?_⟩
    rw [← hns]
    exact look_name hm hk)
  rw [hns]
  clear hrow hmap hn hns hbv hQ hE
  go_enter Ybaf.func12, Ybaf.ntmps12
  go_wp2
  go_loopg [6] n (fun g s6 wx => wr = wx ∧ ∃ r : Nat, r ≤ n ∧ g = r ∧ s6 = .int .i64 ((r : Int) - 1) ∧ Hid (lkB (E.mf i) r k = lkB (E.mf i) n k))
  case atStart => exact ⟨rfl, n, Nat.le_refl _, rfl, rfl, hide rfl⟩
  case round =>
    obtain ⟨rfl, r, hr, rfl, rfl, HR⟩ := hrel
    cases gk with
    | zero =>
      go_wp2
      go_ret2
      exact ⟨by rw [unhide HL, ← unhide HR]; rfl, rfl⟩
    | succ r =>
      obtain ⟨b1, b2⟩ := unhide HB r (by omega)
      obtain rfl := hao (by omega)
      have e1 : ((r + 1 : Nat) : Int) - 1 = (r : Int) := by omega
      rw [e1]
      have hz : (r : Int) < (n : Int) := by omega
      cases hm : E.mf i r k with
      | some s =>
        have HM := hide hm
        rw [hm] at b2
        simp only [Option.getD_some, Option.isSome_some] at b2
        clear hm
        go_wp2
        go_ret2
        exact ⟨by rw [unhide HL, ← unhide HR, lkB_some (unhide HM)]; rfl, rfl⟩
      | none =>
        have HM := hide hm
        rw [hm] at b2
        simp only [Option.getD_none, Option.isSome_none] at b2
        clear hm
        go_wp2
        go_roundg r
        case measure => omega
        case rel => exact ⟨rfl, r, by omega, rfl, rfl, hide (by rw [← unhide HR, lkB_none (unhide HM)])⟩

end Go.Proofs.YbulkaqqFmt
