import Derived.Test.YbulkauyDoorOnce
namespace Go.Proofs.YbulkauyDoor
open Go.RowKit

/-- The reader and the copy in memory, pos bytes read. -/
structure St (w wr : World) (r g n c pos : Nat) (ar : Option Addr) (ev : Value) (f : Nat → Int) : Prop where
  below : Below w.heap.size w wr
  r0 : w.heap.size ≤ r
  rd : wr.heap[r]? = some (rdr (.slice ar (n - pos) (c - pos)) ev)
  at_ : At ar g pos (n - pos) (c - pos)
  row : ∀ i, i < n → wr.cell? ⟨g, i, none⟩ = some (.int .u8 (f i))
  gr : 0 < n → g ≠ r

theorem St.drewN {w wr : World} {r g n c pos : Nat} {ar : Option Addr} {ev : Value} {f : Nat → Int} (h : St w wr r g n c pos ar ev f) (q : Nat) : St w (wr.drewN q) r g n c pos ar ev f :=
  ⟨below_drewN h.below q, h.r0, h.rd, h.at_, h.row, h.gr⟩

theorem St.set0 {w wr : World} {r g n c pos k : Nat} {ar ar' : Option Addr} {ev : Value} {f : Nat → Int} (h : St w wr r g n c pos ar ev f) (ha : At ar' g (pos + k) (n - pos - k) (c - pos - k)) :
    St w (wr.setCell ⟨r, 0, none⟩ (.slice ar' (n - pos - k) (c - pos - k))) r g n c (pos + k) ar' ev f := by
  have e1 : n - pos - k = n - (pos + k) := by omega
  have e2 : c - pos - k = c - (pos + k) := by omega
  rw [e1, e2] at ha ⊢
  refine ⟨h.below.setCell h.r0 _, h.r0, ?_, ha, fun i hi => ?_, h.gr⟩
  · rw [setCell_same _ _ _ _ _ _ h.rd]; rfl
  · rw [World.cell?_of_block (w := wr) (Below.heap_setCell _ _ _ _ (show g ≠ r from h.gr (by omega)))]
    exact h.row i hi

theorem St.set1 {w wr : World} {r g n c pos : Nat} {ar : Option Addr} {ev ev' : Value} {f : Nat → Int} (h : St w wr r g n c pos ar ev f) :
    St w (wr.setCell ⟨r, 1, none⟩ ev') r g n c pos ar ev' f := by
  refine ⟨h.below.setCell h.r0 _, h.r0, ?_, h.at_, fun i hi => ?_, h.gr⟩
  · rw [setCell_same _ _ _ _ _ _ h.rd]; rfl
  · rw [World.cell?_of_block (w := wr) (Below.heap_setCell _ _ _ _ (show g ≠ r from h.gr (by omega)))]
    exact h.row i hi

theorem St.start {w w1 : World} {a : Option Addr} {n c g : Nat} {f : Nat → Int} (h : Buf w w1 a n c g f) : St w (w1.alloc (.cells #[.slice a n c, .nilIface] 68)) w1.heap.size g n c 0 a .nilIface f :=
  ⟨h.below.alloc h.below.size _, h.below.size, heap_alloc_new _ _, h.at0, h.bytes fun k hk => Below.heap_alloc _ _ _ hk, fun h0 => by have := h.glt h0; omega⟩

/-- The piece that a take has handed back, and the law's own look at it, are one. -/
theorem St.eqs {w wr : World} {r g n c pos : Nat} {ar : Option Addr} {ev : Value} {f : Nat → Int} (h : St w wr r g n c pos ar ev f) (q o k : Nat) (x y : Option Addr) (c1 c2 : Nat) (hk : o + k ≤ n) (hn : n ≤ 1024) (h1 : 0 < k → x = some ⟨g, o, none⟩) (h2 : 0 < k → y = some ⟨g, o, none⟩) :
    Calls Ybad.prog 13 #[.slice x k c1, .slice y k c2] (wr.drewN q) fun e w' => e = .returned (.bool true) ∧ ∃ m, w' = (wr.drewN q).drewN m :=
  eq_any x y g o k c1 c2 (fun i => f (o + i)) (wr.drewN q) h1 h2 (fun i hi => h.row (o + i) (by omega)) (by omega)

theorem St.eqs0 {w wr : World} {r g n c pos : Nat} {ar : Option Addr} {ev : Value} {f : Nat → Int} (h : St w wr r g n c pos ar ev f) (o k : Nat) (x y : Option Addr) (c1 c2 : Nat) (hk : o + k ≤ n) (hn : n ≤ 1024) (h1 : 0 < k → x = some ⟨g, o, none⟩) (h2 : 0 < k → y = some ⟨g, o, none⟩) :
    Calls Ybad.prog 13 #[.slice x k c1, .slice y k c2] wr fun e w' => e = .returned (.bool true) ∧ ∃ m, w' = wr.drewN m :=
  eq_any x y g o k c1 c2 (fun i => f (o + i)) wr h1 h2 (fun i hi => h.row (o + i) (by omega)) (by omega)

set_option maxHeartbeats 3200000 in
set_option maxRecDepth 100000 in
theorem run_main {w : World} {a : Option Addr} {n cap b o : Nat} {f : Nat → Int} (hD : Dat w a n cap b o f) (hn : n ≤ 1024) {a2 : Option Addr} {m cap2 b2 o2 : Nat} {f2 : Nat → Int} (hD2 : Dat w a2 m cap2 b2 o2 f2) (hm : m ≤ 1024) (hb2 : 0 < m → b2 < w.heap.size) (hf2 : ∀ i, i < m → 0 ≤ f2 i ∧ f2 i < 256)
    (pa : Addr) (hG : w.cell? ⟨1, 0, none⟩ = some (.iface 83 (.pointer (some pa)))) :
    Calls Ybad.prog 6 #[.slice a n cap, .slice a2 m cap2] w fun e w' => e = .returned (.bool true) ∧ Below w.heap.size w w' := by
  have hz : ¬ (1024 : Int) < (n : Int) := by omega
  have hz2 : ¬ (1024 : Int) < (m : Int) := by omega
  have h1lt : 1 < w.heap.size := World.block_lt_of_cell? _ _ hG
  have HD := hide hD
  have hpos2 := hD2.pos
  have HR2 := hide hD2.row
  have HF2 := hide hf2
  clear hD hD2 hf2
  go_enter Ybad.func6, Ybad.ntmps6
  go_wp2_with (first
    | (at_builtin; refine wpList_copy HD.out hn rfl _ rfl rfl ?_)
    | go_in)
  intro a' c g w1 hB
  have HS0 := hide (St.start hB)
  have hlc := hB.lt
  have hcB := hB.cB
  have hat := hB.at_
  obtain ⟨r, hr⟩ : ∃ r, w1.heap.size = r := ⟨_, rfl⟩
  rw [hr] at HS0
  have HRr := hide hr
  clear hB HD
  have hnn := nil_same_not
  have hen := err_same_not pa
  go_wp2_with fail
  go_loopg [7, 8, 9] m (fun gh s7 s8 s9 wx => ∃ (i pos : Nat) (fl : Bool) (ar : Option Addr) (ev : Value), i ≤ m ∧ gh = m - i ∧ s7 = .int .i64 (pos : Int) ∧ s8 = .bool fl ∧ s9 = .int .i64 (i : Int) ∧ pos ≤ n ∧ (fl = true → ev = .iface 83 (.pointer (some pa))) ∧ (fl = false → ev = .nilIface) ∧ Hid (St w wx r g n c pos ar ev f))
  case atStart => exact ⟨0, 0, false, a', .nilIface, Nat.zero_le _, rfl, rfl, rfl, rfl, Nat.zero_le _, fun h => (by cases h), fun _ => rfl, HS0⟩
  case round =>
    obtain ⟨i, pos, fl, ar, ev, hi, rfl, rfl, rfl, rfl, hpos, hev1, hev0, HS⟩ := hrel
    clear HS0
    have HBel := hide HS.out.below
    have hG2 : wr.cell? ⟨1, 0, none⟩ = some (.iface 83 (.pointer (some pa))) := (HS.out.below.cell h1lt).trans hG
    by_cases him : i < m
    · obtain rfl := hpos2 (by omega)
      have q1 : wr.cell? ⟨b2, o2 + i, none⟩ = some (.int .u8 (f2 i)) := (HS.out.below.cell (hb2 (by omega))).trans (HR2.out i him)
      obtain ⟨k, hkf⟩ : ∃ k : Nat, f2 i = (k : Int) := ⟨(f2 i).toNat, by have := HF2.out i him; omega⟩
      have hk256 : k < 256 := by have := HF2.out i him; omega
      rw [hkf] at q1
      clear hkf
      have hzi : (i : Int) < (m : Int) := by omega
      cases fl with
      | true =>
        obtain rfl := hev1 rfl
        have HT := hide (take_sticky (.slice ar (n - pos) (c - pos)) r (k : Int) 83 (some pa) wr HS.out.rd)
        have r1 : wr.cell? ⟨r, 1, none⟩ = some (.iface 83 (.pointer (some pa))) := by simp [World.cell?, HS.out.rd, rdr]
        clear hev0 hev1
        go_wp2_with fail
        refine HT.out.mono ?_
        rintro e wr ⟨rfl, rfl⟩
        clear HT
        go_upto_region 13 with fail
        go_quiet (fail)
        go_wp2
        go_roundg (m - (i + 1))
        case measure => omega
        case rel => exact ⟨i + 1, pos, true, ar, _, by omega, rfl, rfl, rfl, by go_num, hpos, fun _ => rfl, fun h => (by cases h), hide (HS.out.drewN _)⟩
      | false =>
        obtain rfl := hev0 rfl
        clear hev0 hev1
        by_cases hkn : k ≤ n - pos
        · have HT := hide (take_fits ar g pos (n - pos) (c - pos) r k wr HS.out.at_ HS.out.rd hkn (by omega) (by omega) (by omega))
          go_wp2_with fail
          refine HT.out.mono ?_
          rintro e w2 ⟨rfl, ar', har, hw2⟩
          have hS2 := HS.out.set0 har
          rw [← hw2] at hS2
          have r1 : w2.cell? ⟨r, 1, none⟩ = some .nilIface := by simp [World.cell?, hS2.rd, rdr]
          have HAt := hide HS.out.at_
          have HS2 := hide hS2
          have hkz : ¬ (n : Int) - (pos : Int) < (k : Int) := by omega
          clear hw2 hS2 har HT HS hG2 q1
          rcases hat with ⟨rfl, rfl, rfl⟩ | rfl
          · obtain rfl : pos = 0 := by omega
            obtain rfl : k = 0 := by omega
            go_wp2_with fail
            refine (HS2.out.eqs0 0 0 _ _ _ _ (by omega) hn (fun h => absurd h (Nat.lt_irrefl _)) (fun h => absurd h (Nat.lt_irrefl _))).mono ?_
            rintro e w3 ⟨rfl, mm, hw3⟩
            subst hw3
            go_wp2_with fail
            go_roundg (m - (i + 1))
            case measure => omega
            case rel => exact ⟨i + 1, 0, false, ar', _, by omega, rfl, rfl, rfl, by go_num, Nat.le_refl _, fun h => (by cases h), fun _ => rfl, hide (HS2.out.drewN _)⟩
          · by_cases hcp : c = pos
            · obtain rfl : n = pos := by omega
              subst hcp
              obtain rfl : k = 0 := by omega
              go_wp2_with fail
              refine (HS2.out.eqs0 0 0 _ _ _ _ (by omega) hn (fun h => absurd h (Nat.lt_irrefl _)) (fun h => absurd h (Nat.lt_irrefl _))).mono ?_
              rintro e w3 ⟨rfl, mm, hw3⟩
              subst hw3
              go_wp2_with fail
              go_roundg (m - (i + 1))
              case measure => omega
              case rel => exact ⟨i + 1, c, false, ar', _, by omega, rfl, by go_num, rfl, by go_num, Nat.le_refl _, fun h => (by cases h), fun _ => rfl, hide (HS2.out.drewN _)⟩
            · have hs1 : (pos : Int) + (k : Int) ≤ (c : Int) := by omega
              go_wp2_with fail
              refine (HS2.out.eqs0 pos k _ _ _ _ (by omega) hn (fun h => HAt.out.some (by omega)) (fun _ => rfl)).mono ?_
              rintro e w3 ⟨rfl, mm, hw3⟩
              subst hw3
              go_wp2_with fail
              go_roundg (m - (i + 1))
              case measure => omega
              case rel => exact ⟨i + 1, pos + k, false, ar', _, by omega, rfl, by go_num, rfl, by go_num, by omega, fun h => (by cases h), fun _ => rfl, hide (HS2.out.drewN _)⟩
        · have HT := hide (take_short ar (n - pos) (c - pos) r k 83 (some pa) wr HS.out.rd hG2 (by omega) (by omega) (by omega))
          have hkz : (n : Int) - (pos : Int) < (k : Int) := by omega
          go_wp2_with fail
          refine HT.out.mono ?_
          rintro e w2 ⟨rfl, hw2⟩
          have hS2 := HS.out.set1 (ev' := .iface 83 (.pointer (some pa)))
          rw [← hw2] at hS2
          have r1 : w2.cell? ⟨r, 1, none⟩ = some (.iface 83 (.pointer (some pa))) := by simp [World.cell?, hS2.rd, rdr]
          have hG3 : w2.cell? ⟨1, 0, none⟩ = some (.iface 83 (.pointer (some pa))) := (hS2.below.cell h1lt).trans hG
          have HS2 := hide hS2
          clear hw2 hS2 HT HS hG2 q1
          go_upto_region 17 with fail
          go_quiet (fail)
          go_wp2
          go_roundg (m - (i + 1))
          case measure => omega
          case rel => exact ⟨i + 1, pos, true, ar, _, by omega, rfl, rfl, rfl, by go_num, hpos, fun _ => rfl, fun h => (by cases h), hide (HS2.out.drewN _)⟩
    · have HA := hide HS.out.at_
      have r0 : wr.cell? ⟨r, 0, none⟩ = some (.slice ar (n - pos) (c - pos)) := by simp [World.cell?, HS.out.rd, rdr]
      have hpz : (pos : Int) ≤ (n : Int) := by omega
      clear hG2
      rcases hat with ⟨rfl, rfl, rfl⟩ | rfl
      · obtain rfl : pos = 0 := by omega
        simp only [Nat.sub_self] at r0
        go_wp2
        go_quiet ((go_at_call 13; exact Calls.quiet_of (HS.out.eqs _ 0 0 _ _ _ _ (by omega) hn (fun h => absurd h (Nat.lt_irrefl _)) (fun h => absurd h (Nat.lt_irrefl _)))))
        go_wp2
        go_ret
        exact ⟨rfl, below_drewN HBel.out _⟩
      · by_cases hcp : c = pos
        · obtain rfl : n = pos := by omega
          subst hcp
          simp only [Nat.sub_self] at r0
          go_wp2
          go_quiet ((go_at_call 13; exact Calls.quiet_of (HS.out.eqs _ 0 0 _ _ _ _ (by omega) hn (fun h => absurd h (Nat.lt_irrefl _)) (fun h => absurd h (Nat.lt_irrefl _)))))
          go_wp2
          go_ret
          exact ⟨rfl, below_drewN HBel.out _⟩
        · go_wp2
          go_quiet ((go_at_call 13; exact Calls.quiet_of (HS.out.eqs _ pos (n - pos) _ _ _ _ (by omega) hn (fun h => HA.out.some h) (fun _ => rfl))))
          go_wp2
          go_ret
          exact ⟨rfl, below_drewN HBel.out _⟩

theorem run_big (a : Option Addr) (n cap : Nat) (a2 : Option Addr) (m cap2 : Nat) (w : World) (h : 1024 < n ∨ 1024 < m) : Calls Ybad.prog 6 #[.slice a n cap, .slice a2 m cap2] w fun e w' => e = .returned (.bool true) ∧ Below w.heap.size w w' := by
  by_cases hn : 1024 < n
  · have hz : (1024 : Int) < (n : Int) := by omega
    go_enter Ybad.func6, Ybad.ntmps6
    go_wp2_with fail
    go_ret
    exact ⟨rfl, Below.refl _ _⟩
  · have hz : ¬ (1024 : Int) < (n : Int) := by omega
    have hz2 : (1024 : Int) < (m : Int) := by omega
    go_enter Ybad.func6, Ybad.ntmps6
    go_wp2_with fail
    go_ret
    exact ⟨rfl, Below.refl _ _⟩

end Go.Proofs.YbulkauyDoor
