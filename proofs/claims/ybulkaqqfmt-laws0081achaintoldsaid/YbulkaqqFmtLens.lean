import Derived.Test.YbulkaqqFmtFind
namespace Go.Proofs.YbulkaqqFmt
open Go.RowKit Go.Maps

theorem Ybaf.info3 : (Ybaf.prog.info? 3).map (fun i => (i.zero, i.size, i.bytes)) = some (some (.int .i64 0), 1, 8) := by kernel_rfl

theorem own_slice {w : World} {base : Nat} {e : TypeId} {size : Nat} {v : Value} {n : Nat} {xs : List Value} (h : w.ownsRow base e size v n xs) : ∃ ao c, v = .slice ao n c := by
  rcases h.2 with ⟨rfl, rfl⟩ | ⟨g, cap, cur, rfl, _⟩
  · exact ⟨_, _, rfl⟩
  · exact ⟨_, _, rfl⟩

/-- A row, one cell more filled. -/
theorem row_fill {w : World} {b : Nat} {t : TypeId} {n k : Nat} {f g : Nat → Value} (h : w.rowIs b t n (fun i => if i < k then f i else g i)) : (w.setCell ⟨b, k, none⟩ (f k)).rowIs b t n (fun i => if i < k + 1 then f i else g i) := by
  refine (h.set k _).congr fun i _ => ?_
  by_cases e : i = k
  · subst e; simp
  · rw [if_neg e]
    by_cases hlt : i < k
    · rw [if_pos hlt, if_pos (by omega)]
    · rw [if_neg hlt, if_neg (by omega)]

/-- Q in a world that stands on the old one. -/
theorem Q.on {E : Env} {w wr W : World} {nm : Nat → List Nat} {cv : Nat → Value} (h : Q E w wr nm cv) (hb : Below wr.heap.size wr W) : Q E w W nm cv := h.frame (hb.mono h.below.size) hb.block

set_option maxHeartbeats 400000 in
theorem lens_any {E : Env} {base : Nat} (hE : EOk E base) {w w1 : World} {nm : Nat → List Nat} {cv : Nat → Value} (hQ : Q E w w1 nm cv) (cap : Nat) :
    Calls Ybaf.prog 8 #[.slice (some ⟨E.SS, 0, none⟩) E.N cap] w1 fun e w' =>
      e = .returned (.slice (some ⟨w1.heap.size, 0, none⟩) E.N E.N) ∧ Below w1.heap.size w1 w' ∧ w'.rowIs w1.heap.size 3 E.N (fun i => .int .i64 ((nm i).length : Int)) := by
  have hN := hE.le
  have hmk := run_make_row' (P := Ybaf.prog) 28 3 (.int .i64 0) 8 Ybaf.underlying28 Ybaf.info3 rfl .i64 .i64 E.N (by omega) (by omega)
  have HQ := hide hQ
  clear hQ
  go_enter Ybaf.func8, Ybaf.ntmps8
  go_wp2
  clear hmk
  go_loopg [11] E.N (fun g s11 wx => ∃ i : Nat, i ≤ E.N ∧ g = E.N - i ∧ s11 = .int .i64 (i : Int) ∧ Below w1.heap.size w1 wx ∧ wx.rowIs w1.heap.size 3 E.N (fun j => if j < i then .int .i64 ((nm j).length : Int) else .int .i64 0))
  case atStart => exact ⟨0, Nat.zero_le _, rfl, rfl, (Below.refl _ _).alloc (Nat.le_refl _) _, (World.rowIs_made w1 (.int .i64 0) E.N 3).congr (fun i _ => by simp)⟩
  case round =>
    obtain ⟨i, hi, rfl, rfl, hb, hr⟩ := hrel
    by_cases hiN : i < E.N
    · have hQ2 := (unhide HQ).on hb
      obtain ⟨ao, c, hcv⟩ := own_slice (hQ2.cap i hiN)
      have p1 := hQ2.ss.cell hiN
      have p2 : wr.cell? ⟨E.sb i, 0, none⟩ = some (.pointer (some ⟨E.fb i, 0, none⟩)) := by simp [World.cell?, hQ2.scp i hiN, scpObj]
      have p3 : wr.cell? ⟨E.fb i, 4, none⟩ = some (.slice ao (nm i).length c) := by simp [World.cell?, hQ2.fn i hiN, funObj, hcv]
      have r0 := hr.cell hiN
      simp only [Nat.lt_irrefl, if_false] at r0
      have r1 := hr.frozen i
      have hz : (i : Int) < (E.N : Int) := by omega
      clear hQ2 hcv
      go_wp2
      go_roundg (E.N - (i + 1))
      case measure => omega
      case rel => exact ⟨i + 1, by omega, rfl, by go_num, hb.setCell (Nat.le_refl _) _, row_fill (f := fun j => .int .i64 ((nm j).length : Int)) hr⟩
    · go_wp2
      go_ret
      exact ⟨rfl, hb, hr.congr (fun j hj => by rw [if_pos (by omega)])⟩

end Go.Proofs.YbulkaqqFmt
