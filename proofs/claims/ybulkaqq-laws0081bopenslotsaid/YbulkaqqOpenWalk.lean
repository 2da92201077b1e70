import Derived.Test.YbulkaqqSetOpen
import Derived.Deep.LoopGhost
import Derived.Deep.OwnRows
import Derived.Deep.Light
import Derived.BigQuiet
namespace Go.Proofs.Ybulkaqq
open Go.RowKit
attribute [local go_sem] store_float

theorem Yba.info30 : (Yba.prog.info? 30).map (fun i => (i.zero, i.size, i.bytes)) = some (some (.agg #[.float .f64 0, .nilIface]), 2, 24) := by kernel_rfl

/-- 'make([]Value, n)': an equation for every world. -/
theorem make_values (n : Nat) (hn : n ≤ 2000) (w : World) :
    (Instr.makeSlice 34 (.int .i64 ((n : Int) + 1)) (.int .i64 ((n : Int) + 1))).run Yba.prog w =
      .ok (.slice (some ⟨w.heap.size, 0, none⟩) (n + 1) (n + 1)) (w.alloc (.cells (madeCells #[.float .f64 0, .nilIface] ((n + 1) * 2)) 30)) := by
  obtain ⟨i, hi, hzz⟩ := Option.map_eq_some_iff.1 Yba.info30
  simp only [Prod.mk.injEq] at hzz
  obtain ⟨hz, hs, hb⟩ := hzz
  have hr := run_make (P := Yba.prog) w 34 30 i _ Yba.underlying34 hi hz .i64 .i64 ((n : Int) + 1) ((n : Int) + 1) (by omega) (Int.le_refl _) (by rw [hb]; omega) (by omega)
  rw [hs] at hr
  have e : ((n : Int) + 1).toNat = n + 1 := by omega
  rw [e] at hr
  exact hr

/-- The stack's cells: element i is ⟨F i, nil⟩. -/
def stk (F : Nat → Nat) : Nat → Value := fun j => if j % 2 = 0 then .float .f64 (F (j / 2)) else .nilIface

/-- At the first loop's head, k elements are filled. -/
structure Fill (w wr : World) (n : Nat) (f : Nat → Nat) (k : Nat) : Prop where
  below : Below w.heap.size w wr
  size : wr.heap.size = w.heap.size + 1
  row : wr.rowIs w.heap.size 30 ((n + 1) * 2) (stk fun i => if i < k then f i else 0)

theorem made_values (n j : Nat) (h : j < n) : (madeCells #[Value.float .f64 0, .nilIface] n)[j]? = some (stk (fun _ => 0) j) := by
  simp only [madeCells, Array.getElem?_map]
  rw [Array.getElem?_eq_getElem (by simpa using h)]
  simp only [Array.getElem_range, Option.map_some, List.size_toArray, List.length_cons, List.length_nil, stk]
  rcases Nat.mod_two_eq_zero_or_one j with h0 | h0 <;> simp [h0]

theorem fill_start (w : World) (n : Nat) (f : Nat → Nat) : Fill w (w.alloc (.cells (madeCells #[.float .f64 0, .nilIface] ((n + 1) * 2)) 30)) n f 0 := by
  refine ⟨(Below.refl _ _).alloc (Nat.le_refl _) _, by simp, ⟨_, heap_alloc_new w _, size_madeCells _ _, fun j hj => ?_⟩⟩
  rw [made_values _ _ hj]
  simp [stk]

theorem fill_step {w wr : World} {n : Nat} {f : Nat → Nat} {k : Nat} (h : Fill w wr n f k) :
    Fill w ((wr.setCell ⟨w.heap.size, k * 2, none⟩ (.float .f64 (f k))).setCell ⟨w.heap.size, k * 2 + 1, none⟩ .nilIface) n f (k + 1) := by
  refine ⟨(h.below.setCell (Nat.le_refl _) _).setCell (Nat.le_refl _) _, by simp [World.setCell, h.size], ((h.row.set _ _).set _ _).congr fun j hj => ?_⟩
  simp only [stk]
  by_cases e1 : j = k * 2 + 1
  · subst e1
    rw [if_pos rfl, if_neg (by omega)]
  · rw [if_neg e1]
    by_cases e2 : j = k * 2
    · subst e2
      rw [if_pos rfl, if_pos (by omega), if_pos (by omega), show k * 2 / 2 = k by omega]
    · rw [if_neg e2]
      by_cases e3 : j % 2 = 0
      · rw [if_pos e3, if_pos e3]
        by_cases e4 : j / 2 < k
        · rw [if_pos e4, if_pos (by omega)]
        · rw [if_neg e4, if_neg (by omega)]
      · rw [if_neg e3, if_neg e3]

theorem stk_even (F : Nat → Nat) (k : Nat) : stk F (k * 2) = .float .f64 (F k) := by simp [stk]
theorem stk_odd (F : Nat → Nat) (k : Nat) : stk F (k * 2 + 1) = .nilIface := by simp [stk]

/-- What the stack holds behind the call of 'set'. -/
def after (n : Nat) (f : Nat → Nat) (s v : Nat) : Nat → Nat := fun i => if i = s then v else if i < n then f i else 0

def cellObj (s : Nat) (kept : Int) : Obj := .cells #[.bool true, .int .i64 s, .float .f64 4619567317775286272, .nilIface, .int .i64 kept] 32
def machObj (S n : Nat) (runs : Int) : Obj := .cells #[.pointer none, .slice none 0 0, .slice none 0 0, .slice (some ⟨S, 0, none⟩) (n + 1) (n + 1), .int .i64 0, .int .i64 0, .slice none 0 0, .int .i64 0, .slice none 0 0,
  .int .i64 runs, .slice none 0 0, .nilIface, .int .u64 0, .int .i64 0] 42

/-- Behind the call of 'set'. -/
structure Done (w wx : World) (n : Nat) (f : Nat → Nat) (s v : Nat) (kept runs : Int) : Prop where
  below : Below w.heap.size w wx
  row : wx.rowIs w.heap.size 30 ((n + 1) * 2) (stk (after n f s v))
  cel : wx.heap[w.heap.size + 1]? = some (cellObj s kept)
  mac : wx.heap[w.heap.size + 1 + 1]? = some (machObj w.heap.size n runs)

theorem Done.alloc {w wx : World} {n : Nat} {f : Nat → Nat} {s v : Nat} {kept runs : Int} (h : Done w wx n f s v kept runs) (o : Obj) : Done w (wx.alloc o) n f s v kept runs := by
  have hsz : w.heap.size + 1 + 1 < wx.heap.size := by
    obtain ⟨h1, _⟩ := Array.getElem?_eq_some_iff.1 h.mac
    exact h1
  exact ⟨h.below.alloc (by omega) o, h.row.alloc o, by rw [Below.heap_alloc _ _ _ (by omega)]; exact h.cel, by rw [Below.heap_alloc _ _ _ (by omega)]; exact h.mac⟩

theorem done_start {w wr : World} {n : Nat} {f : Nat → Nat} {s v : Nat} {kept runs : Int} (h : Fill w wr n f n) (o : Obj) :
    Done w (((((wr.alloc (cellObj s kept)).alloc (machObj w.heap.size n runs)).setCell ⟨w.heap.size, s * 2, none⟩ (.float .f64 v)).setCell ⟨w.heap.size, s * 2 + 1, none⟩ .nilIface).alloc o).drew n f s v kept runs := by
  have hz := h.size
  have hsz : ((((wr.alloc (cellObj s kept)).alloc (machObj w.heap.size n runs)).setCell ⟨w.heap.size, s * 2, none⟩ (.float .f64 v)).setCell ⟨w.heap.size, s * 2 + 1, none⟩ .nilIface).heap.size = w.heap.size + 3 := by
    simp [World.setCell]; omega
  refine ⟨(((((h.below.alloc (by omega) _).alloc (by simp; omega) _).setCell (Nat.le_refl _) _).setCell (Nat.le_refl _) _).alloc (by omega) _).drew, ?_, ?_, ?_⟩
  · refine (((((h.row.alloc _).alloc _).set _ _).set _ _).congr fun j hj => ?_).alloc _ |>.drew
    simp only [stk, after]
    by_cases e1 : j = s * 2 + 1
    · subst e1
      rw [if_pos rfl, if_neg (by omega)]
    · rw [if_neg e1]
      by_cases e2 : j = s * 2
      · subst e2
        rw [if_pos rfl, if_pos (by omega), if_pos (by omega)]
      · rw [if_neg e2]
        by_cases e3 : j % 2 = 0
        · rw [if_pos e3, if_pos e3, if_neg (show ¬ j / 2 = s by omega)]
        · rw [if_neg e3, if_neg e3]
  · show (World.alloc _ o).heap[_]? = _
    rw [Below.heap_alloc _ _ _ (by omega), Below.heap_setCell _ _ _ _ (by show _ ≠ w.heap.size; omega), Below.heap_setCell _ _ _ _ (by show _ ≠ w.heap.size; omega), Below.heap_alloc _ _ _ (by simp; omega), ← hz, heap_alloc_new]
  · show (World.alloc _ o).heap[_]? = _
    rw [Below.heap_alloc _ _ _ (by omega), Below.heap_setCell _ _ _ _ (by show _ ≠ w.heap.size; omega), Below.heap_setCell _ _ _ _ (by show _ ≠ w.heap.size; omega)]
    have := heap_alloc_new (wr.alloc (cellObj s kept)) (machObj w.heap.size n runs)
    rw [show (wr.alloc (cellObj s kept)).heap.size = w.heap.size + 2 by simp; omega] at this
    exact this

theorem Done.lt {w wx : World} {n : Nat} {f : Nat → Nat} {s v : Nat} {kept runs : Int} (h : Done w wx n f s v kept runs) : w.heap.size + 1 + 1 < wx.heap.size := by
  obtain ⟨h1, _⟩ := Array.getElem?_eq_some_iff.1 h.mac
  exact h1

/-- The cells that the law reads behind the call of 'set'. -/
theorem Done.cells {w wx : World} {n : Nat} {f : Nat → Nat} {s v : Nat} {kept runs : Int} (h : Done w wx n f s v kept runs) :
    wx.cell? ⟨w.heap.size + 1, 0, none⟩ = some (.bool true) ∧ wx.cell? ⟨w.heap.size + 1, 1, none⟩ = some (.int .i64 s) ∧ wx.cell? ⟨w.heap.size + 1, 2, none⟩ = some (.float .f64 4619567317775286272) ∧
      wx.cell? ⟨w.heap.size + 1, 3, none⟩ = some .nilIface ∧ wx.cell? ⟨w.heap.size + 1, 4, none⟩ = some (.int .i64 kept) ∧
      wx.cell? ⟨w.heap.size + 1 + 1, 3, none⟩ = some (.slice (some ⟨w.heap.size, 0, none⟩) (n + 1) (n + 1)) ∧ wx.cell? ⟨w.heap.size + 1 + 1, 10, none⟩ = some (.slice none 0 0) := by
  have h1 := h.cel
  have h2 := h.mac
  simp [World.cell?, h1, h2, cellObj, machObj]

theorem set_here {w wr : World} {n : Nat} {f : Nat → Nat} {s v : Nat} {kept runs : Int} (h : Fill w wr n f n) (hs : s < n + 1) :
    Calls Yba.prog 5 #[.pointer (some ⟨w.heap.size + 1 + 1, 0, none⟩), .pointer (some ⟨w.heap.size + 1, 0, none⟩), .agg #[.float .f64 v, .nilIface]]
      ((wr.alloc (.cells #[.bool true, .int .i64 s, .float .f64 4619567317775286272, .nilIface, .int .i64 kept] 32)).alloc (.cells #[.pointer none, .slice none 0 0, .slice none 0 0, .slice (some ⟨w.heap.size, 0, none⟩) (n + 1) (n + 1),
        .int .i64 0, .int .i64 0, .slice none 0 0, .int .i64 0, .slice none 0 0, .int .i64 runs, .slice none 0 0, .nilIface, .int .u64 0, .int .i64 0] 42)) fun e w' => e = .returned (.tuple #[]) ∧ Done w w' n f s v kept runs := by
  have hz := h.size
  have hb1 : ((wr.alloc (cellObj s kept)).alloc (machObj w.heap.size n runs)).heap[w.heap.size + 1]? = some (cellObj s kept) := by
    rw [Below.heap_alloc _ _ _ (by simp; omega), ← hz, heap_alloc_new]
  have hb2 : ((wr.alloc (cellObj s kept)).alloc (machObj w.heap.size n runs)).heap[w.heap.size + 1 + 1]? = some (machObj w.heap.size n runs) := by
    have := heap_alloc_new (wr.alloc (cellObj s kept)) (machObj w.heap.size n runs)
    rw [show (wr.alloc (cellObj s kept)).heap.size = w.heap.size + 1 + 1 by simp; omega] at this
    exact this
  have hr := (h.row.alloc (cellObj s kept)).alloc (machObj w.heap.size n runs)
  have hsz : ((wr.alloc (cellObj s kept)).alloc (machObj w.heap.size n runs)).heap.size = w.heap.size + 3 := by simp; omega
  show Calls Yba.prog 5 _ ((wr.alloc (cellObj s kept)).alloc (machObj w.heap.size n runs)) _
  generalize hW : (wr.alloc (cellObj s kept)).alloc (machObj w.heap.size n runs) = W at hb1 hb2 hr hsz
  refine (set_open (w.heap.size + 1 + 1) (w.heap.size + 1) w.heap.size s (n + 1) v _ _ W hs ?_ ?_ ?_ (hr.cell (by omega)) (hr.cell (by omega)) (hr.frozen _) (hr.frozen _) (by omega) (by omega) (by omega)).mono ?_
  · simp [World.cell?, hb1, cellObj]
  · simp [World.cell?, hb1, cellObj]
  · simp [World.cell?, hb2, machObj]
  · rintro e w' ⟨rfl, rfl⟩
    subst hW
    exact ⟨rfl, done_start h _⟩

set_option maxHeartbeats 400000 in
theorem open_walk (a0 : Option Addr) (n cap : Nat) (f : Nat → Nat) (slot : Int) (v : Nat) (kept runs : Int) (w : World) (hn : n ≤ 1024) (hs0 : 0 ≤ slot) (b off : Nat)
    (ha : 0 < n → a0 = some ⟨b, off, none⟩) (hb : 0 < n → b < w.heap.size) (hc : ∀ i, i < n → w.cell? ⟨b, off + i, none⟩ = some (.float .f64 (f i))) :
    Calls Yba.prog 4 #[.slice a0 n cap, .int .u64 slot, .float .f64 v, .int .i64 kept, .int .i64 runs] w fun e w' => e = .returned (.bool true) ∧ Below w.heap.size w w' := by
  obtain ⟨s, hs, hsn⟩ : ∃ s : Nat, slot % ((n : Int) + 1) = (s : Int) ∧ s < n + 1 := ⟨(slot % ((n : Int) + 1)).toNat, by
    have := Int.emod_nonneg slot (show (n : Int) + 1 ≠ 0 by omega)
    omega, by
    have := Int.emod_nonneg slot (show (n : Int) + 1 ≠ 0 by omega)
    have := Int.emod_lt_of_pos slot (show (0 : Int) < (n : Int) + 1 by omega)
    omega⟩
  have hmk := make_values n (by omega)
  have hd : decide ((1024 : Int) < (n : Int)) = false := by simp; omega
  go_enter Yba.func4, Yba.ntmps4
  go_wp2
  clear hmk
  go_loopg [13] n (fun g i wr => ∃ k : Nat, k ≤ n ∧ g = n - k ∧ i = .int .i64 k ∧ Fill w wr n f k)
  case atStart => exact ⟨0, Nat.zero_le _, rfl, rfl, fill_start w n f⟩
  case round =>
    obtain ⟨k, hk, rfl, rfl, hF⟩ := hrel
    by_cases hkn : k < n
    · have hkz : (k : Int) < (n : Int) := by omega
      obtain rfl := ha (by omega)
      have hbs := hb (by omega)
      have g0 : wr.cell? ⟨b, off + k, none⟩ = some (.float .f64 (f k)) := (hF.below.cell (p := ⟨b, off + k, none⟩) hbs).trans (hc k hkn)
      have g1 : wr.cell? ⟨w.heap.size, k * 2, none⟩ = some (.float .f64 0) := by rw [hF.row.cell (by omega), stk_even]; simp
      have g2 : wr.cell? ⟨w.heap.size, k * 2 + 1, none⟩ = some .nilIface := by rw [hF.row.cell (by omega), stk_odd]
      have g3 := hF.row.frozen (k * 2)
      have g4 := hF.row.frozen (k * 2 + 1)
      have hk2 : (k : Int) < (n : Int) + 1 := by omega
      go_wp2
      go_roundg (n - (k + 1))
      case measure => omega
      case rel => exact ⟨k + 1, by omega, rfl, by go_num, fill_step hF⟩
    · obtain rfl : k = n := by omega
      have hz := hF.size
      have hset := set_here (s := s) (v := v) (kept := kept) (runs := runs) hF hsn
      have HS := hide hset
      clear hset
      go_wp2_with fail
      refine (unhide HS).mono ?_
      rintro e w1 ⟨rfl, hD⟩
      obtain ⟨c0, c1, c2, c3, c4, c5, c6⟩ := hD.cells
      have hlt := hD.lt
      clear hF hz HS
      go_wp2_with (go_at_call 6; refine (same_true _ _).mono ?_; rintro e w2 ⟨rfl, rfl⟩)
      clear c0 c1 c2 c3 c4 c5 c6 hlt
      go_loopg [17] (k + 1) (fun g i wq => ∃ q : Nat, q ≤ k + 1 ∧ g = k + 1 - q ∧ i = .int .i64 q ∧ Done w wq k f s v kept runs)
      case atStart => exact ⟨0, Nat.zero_le _, rfl, rfl, hD.alloc _⟩
      case round =>
        clear hD
        obtain ⟨q, hq, rfl, rfl, hD⟩ := hrel
        obtain ⟨_, _, _, _, _, c5, _⟩ := hD.cells
        have hlt := hD.lt
        by_cases hqk : q < k + 1
        · have hqz : (q : Int) < (k : Int) + 1 := by omega
          have r0 := hD.row.cell (i := q * 2) (by omega)
          have r1 := hD.row.cell (i := q * 2 + 1) (by omega)
          rw [stk_even] at r0
          rw [stk_odd] at r1
          by_cases hqs : q = s
          · subst hqs
            have e0 : after k f q v q = v := by simp [after]
            rw [e0] at r0
            have hqe : ((q : Int) == (q : Int)) = true := by simp
            by_cases hqn : q < k
            · obtain rfl := ha (by omega)
              have g0 : wr.cell? ⟨b, off + q, none⟩ = some (.float .f64 (f q)) := (hD.below.cell (p := ⟨b, off + q, none⟩) (hb (by omega))).trans (hc q hqn)
              go_wp2_with (go_at_call 6; refine (same_true _ _).mono ?_; rintro e w2 ⟨rfl, rfl⟩)
              go_roundg (k + 1 - (q + 1))
              case measure => omega
              case rel => exact ⟨q + 1, by omega, rfl, by go_num, hD.alloc _⟩
            · go_wp2_with (go_at_call 6; refine (same_true _ _).mono ?_; rintro e w2 ⟨rfl, rfl⟩)
              go_roundg (k + 1 - (q + 1))
              case measure => omega
              case rel => exact ⟨q + 1, by omega, rfl, by go_num, hD.alloc _⟩
          · have hqe : ((q : Int) == (s : Int)) = false := by simp; omega
            by_cases hqn : q < k
            · obtain rfl := ha (by omega)
              have e0 : after k f s v q = f q := by simp [after, hqs, hqn]
              rw [e0] at r0
              have g0 : wr.cell? ⟨b, off + q, none⟩ = some (.float .f64 (f q)) := (hD.below.cell (p := ⟨b, off + q, none⟩) (hb (by omega))).trans (hc q hqn)
              clear e0
              go_wp2_with (go_at_call 6; refine (same_true _ _).mono ?_; rintro e w2 ⟨rfl, rfl⟩)
              go_roundg (k + 1 - (q + 1))
              case measure => omega
              case rel => exact ⟨q + 1, by omega, rfl, by go_num, hD.alloc _⟩
            · have e0 : after k f s v q = 0 := by simp [after, hqs, hqn]
              rw [e0] at r0
              clear e0
              go_wp2_with (go_at_call 6; refine (same_true _ _).mono ?_; rintro e w2 ⟨rfl, rfl⟩)
              go_roundg (k + 1 - (q + 1))
              case measure => omega
              case rel => exact ⟨q + 1, by omega, rfl, by go_num, hD.alloc _⟩
        · go_wp2
          go_ret
          exact ⟨rfl, hD.below⟩

end Go.Proofs.Ybulkaqq
