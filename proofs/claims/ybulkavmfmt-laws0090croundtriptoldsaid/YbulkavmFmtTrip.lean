import Derived.Test.YbulkavmFmtFields
import Derived.Laws.MakeOwn
import Derived.Deep.DeepAppendRoom
import Derived.OwnWalk
namespace Go.Proofs.YbulkavmFmt
open Go.RowKit

theorem Ybaf.info5 : (Ybaf.prog.info? 5).map (fun i => (i.zero, i.size, i.bytes)) = some (some (.int .u8 0), 1, 1) := by kernel_rfl

def bit (y : Bool) : Int := if y then 1 else 0

/-- flag(yes) -/
theorem bit_any (y : Bool) (w : World) : Calls Ybaf.prog 8 #[.bool y] w fun e w' => e = .returned (.int .u8 (bit y)) ∧ w' = w := by
  cases y with
  | true => go_enter Ybaf.func8, Ybaf.ntmps8; go_wp2; go_ret; exact ⟨rfl, rfl⟩
  | false => go_enter Ybaf.func8, Ybaf.ntmps8; go_wp2; go_ret; exact ⟨rfl, rfl⟩

/-- end(), where all is read and no error stands. -/
theorem end_any (a : Option Addr) (c r : Nat) (w : World) (h : w.heap[r]? = some (fld (.slice a 0 c) .nilIface)) : Calls Ybaf.prog 9 #[.pointer (some ⟨r, 0, none⟩)] w fun e w' => e = .returned .nilIface ∧ w' = w := by
  have c0 : w.cell? ⟨r, 0, none⟩ = some (.slice a 0 c) := by simp [World.cell?, h, fld]
  have c1 : w.cell? ⟨r, 1, none⟩ = some .nilIface := by simp [World.cell?, h, fld]
  clear h
  go_enter Ybaf.func9, Ybaf.ntmps9
  go_wp2_with fail
  go_ret
  exact ⟨rfl, rfl⟩

/-- The bools that came in. -/
structure Bools (w : World) (a : Option Addr) (n b o : Nat) (y : Nat → Bool) : Prop where
  pos : 0 < n → a = some ⟨b, o, none⟩
  lt : 0 < n → b < w.heap.size
  row : ∀ i, i < n → w.cell? ⟨b, o + i, none⟩ = some (.bool (y i))

/-- While the bytes are written. -/
structure Wr (w wr : World) (n i : Nat) (y : Nat → Bool) : Prop where
  below : Below w.heap.size w wr
  own : wr.ownsRow w.heap.size 5 1 (.slice (some ⟨w.heap.size, 0, none⟩) i n) i ((List.range i).map fun j => .int .u8 (bit (y j)))

/-- While they are read. -/
structure Rd (w wr : World) (n i : Nat) (o : Nat) (y : Nat → Bool) (r : Nat) : Prop where
  below : Below w.heap.size w wr
  rd : wr.heap[r]? = some (fld (.slice (some ⟨w.heap.size, o, none⟩) (n - i) (n - i)) .nilIface)
  o : i < n → o = i
  row : ∀ j, j < n → wr.cell? ⟨w.heap.size, j, none⟩ = some (.int .u8 (bit (y j)))
  r0 : w.heap.size < r

theorem Rd.start {w wr : World} {n : Nat} {y : Nat → Bool} (h : Wr w wr n n y) : Rd w (wr.alloc (.cells #[.slice (some ⟨w.heap.size, 0, none⟩) n n, .nilIface] 26)) n 0 0 y wr.heap.size := by
  have hz := h.below.size
  rcases h.own.2 with ⟨h1, _⟩ | ⟨g, cap, cur, hv, _, hh, hle, _, hsz, htk⟩
  · cases h1
  · simp at hv
    obtain ⟨rfl, rfl⟩ := hv
    have hlt : w.heap.size < wr.heap.size := (Array.getElem?_eq_some_iff.1 hh).1
    refine ⟨h.below.alloc hz _, heap_alloc_new _ _, fun _ => rfl, fun j hj => ?_, hlt⟩
    rw [World.cell?_of_block (w := wr) (Below.heap_alloc _ _ _ hlt)]
    have h1 : (cur.toList.take (n * 1))[j]? = some (.int .u8 (bit (y j))) := by
      rw [htk]
      simp [hj]
    rw [List.getElem?_take_of_lt (by omega)] at h1
    simp only [World.cell?, hh]
    simpa using h1

theorem Rd.next {w wr w1 : World} {n i o r : Nat} {y : Nat → Bool} (h : Rd w wr n i o y r) (hi : i < n) (hA : Aft wr w1 r (.slice (some (tl w.heap.size o (n - i))) (n - i - 1) (n - i - 1)) .nilIface) : ∃ o', Rd w w1 n (i + 1) o' y r := by
  have hz := h.below.size
  have e : n - i - 1 = n - (i + 1) := by omega
  have hoi := h.o hi
  subst hoi
  have hr0 := h.r0
  have hrl : r < wr.heap.size := (Array.getElem?_eq_some_iff.1 h.rd).1
  refine ⟨if n - o = 1 then o else o + 1, ⟨h.below.trans ⟨hA.os, hA.tape, hA.output, hA.size, fun k hk => hA.below k (by omega) (by omega)⟩, ?_, fun hlt => ?_, fun j hj => ?_, h.r0⟩⟩
  · rw [hA.rd, e]
    unfold tl
    by_cases h1 : n - o = 1
    · simp [h1]
    · simp [h1]
  · rw [if_neg (by omega)]
  · rw [World.cell?_of_block (w := wr) (hA.below w.heap.size (show w.heap.size < wr.heap.size by omega) (show w.heap.size ≠ r by omega))]
    exact h.row j hj

theorem Wr.start {w w' : World} {n : Nat} {y : Nat → Bool} (ho : w'.ownsRow w.heap.size 5 1 (.slice (some ⟨w.heap.size, 0, none⟩) 0 n) 0 []) (hg : w.grownBy w' none) : Wr w w' n 0 y :=
  ⟨⟨hg.os, hg.tape, hg.output, hg.size, fun k hk => hg.block k hk (by simp)⟩, ho⟩

theorem Wr.add {w wr w2 : World} {n i : Nat} {y : Nat → Bool} {o : Obj} (h : Wr w wr n i y) (ho : w2.ownsRow w.heap.size 5 1 (.slice (some ⟨w.heap.size, 0, none⟩) (i + 1) n) (i + 1) (((List.range i).map fun j => .int .u8 (bit (y j))) ++ [.int .u8 (bit (y i))])) (hg : (wr.alloc o).grownBy w2 (some w.heap.size)) : Wr w w2 n (i + 1) y := by
  have hz := h.below.size
  refine ⟨h.below.trans ⟨hg.os, hg.tape, hg.output, by have := hg.size; simp at this; omega, fun k hk => ?_⟩, ?_⟩
  · rw [hg.block k (by simp; omega) (by simp; omega), Below.heap_alloc _ _ _ (by omega)]
  · rw [List.range_succ, List.map_append]
    exact ho

theorem bit_eq (y : Bool) : (bit y == 1) = y := by cases y <;> rfl

set_option maxHeartbeats 1600000 in
theorem trip_main {w : World} {a : Option Addr} {n cap b o : Nat} {y : Nat → Bool} (hB : Bools w a n b o y) (hn : n ≤ 1024) :
    Calls Ybaf.prog 4 #[.slice a n cap] w fun e w' => e = .returned (.bool true) ∧ Below w.heap.size w w' := by
  obtain ⟨i5, hi5, z0, z1, z2⟩ := info_parts Ybaf.info5
  have hz : ¬ (1024 : Int) < (n : Int) := by omega
  have hpos := hB.pos
  have hlt := hB.lt
  have HRow := hide hB.row
  clear hB
  obtain ⟨wm, hmk, hown, hgr⟩ := run_make_own (P := Ybaf.prog) w w.heap.size 22 5 i5 _ 1 Ybaf.underlying22 hi5 z0 z1 .i64 .i64 n (by rw [z2]; omega) (by simp only [maxLen]; omega) (Nat.le_refl _)
  have HW0 := hide (Wr.start (y := y) hown hgr)
  clear hown hgr
  go_enter Ybaf.func4, Ybaf.ntmps4
  go_wp2_with fail
  clear hmk
  go_loopg [3, 17] n (fun g s3 s17 wx => ∃ i : Nat, i ≤ n ∧ g = n - i ∧ s3 = .slice (some ⟨w.heap.size, 0, none⟩) i n ∧ s17 = .int .i64 (i : Int) ∧ Hid (Wr w wx n i y))
  case atStart => exact ⟨0, Nat.zero_le _, rfl, rfl, rfl, HW0⟩
  case round =>
    obtain ⟨i, hi, rfl, rfl, rfl, HW⟩ := hrel
    clear HW0
    by_cases hin : i < n
    · obtain rfl := hpos (by omega)
      have hbl := hlt (by omega)
      have q1 : wr.cell? ⟨b, o + i, none⟩ = some (.bool (y i)) := (HW.out.below.cell hbl).trans (HRow.out i hin)
      have hzi : (i : Int) < (n : Int) := by omega
      have HF := hide (bit_any (y i) wr)
      have HAdd := hide (fun w2 o => HW.out.add (w2 := w2) (o := o))
      have HO := hide HW.out.own
      obtain ⟨yi, hyi⟩ : ∃ yi, y i = yi := ⟨_, rfl⟩
      rw [hyi] at q1 HF HAdd
      clear hyi
      go_wp2_with fail
      refine HF.out.mono ?_
      rintro e w1 ⟨rfl, hw1⟩
      subst hw1
      go_wp2_with (first
        | (at_builtin; refine wpList_append_own_spare _ rfl _ _ 22 rfl w.heap.size 5 i5 1 Ybaf.underlying22 hi5 z1 w.heap.size i n _ rfl (HO.out.alloc _) ⟨w1.heap.size, 0, none⟩ 1 1 [.int .u8 (bit yi)] rfl rfl ?c1 ?c2 ?c3 ?_)
        | go_in)
      case c1 =>
        intro q u hq
        match q, hq with
        | 0, hq => simp at hq; subst hq; simp [Addr.add]
      case c2 => intro u hu; simp at hu; subst hu; rfl
      case c3 => omega
      intro w2 ho2 hg2
      have HW2 := hide (HAdd.out w2 _ ho2 hg2)
      clear ho2 hg2 HAdd HO q1 HF
      go_wp2_with fail
      go_roundg (n - (i + 1))
      case measure => omega
      case rel => exact ⟨i + 1, by omega, rfl, rfl, by go_num, HW2⟩
    · obtain rfl : n = i := by omega
      have HR0 := hide (Rd.start HW.out)
      obtain ⟨r, hr⟩ : ∃ r, wr.heap.size = r := ⟨_, rfl⟩
      rw [hr] at HR0
      clear HW
      go_wp2_with fail
      go_loopg [31] n (fun g s31 wx => ∃ i o' : Nat, i ≤ n ∧ g = n - i ∧ s31 = .int .i64 (i : Int) ∧ Hid (Rd w wx n i o' y r))
      case atStart => exact ⟨0, 0, Nat.zero_le _, rfl, rfl, HR0⟩
      case round =>
        obtain ⟨i, o', hi, rfl, rfl, HR⟩ := hrel
        clear HR0
        by_cases hin : i < n
        · obtain rfl := hpos (by omega)
          have hbl := hlt (by omega)
          have q1 : wr.cell? ⟨b, o + i, none⟩ = some (.bool (y i)) := (HR.out.below.cell hbl).trans (HRow.out i hin)
          have hzi : (i : Int) < (n : Int) := by omega
          have x1 : wr.cell? ⟨w.heap.size, o', none⟩ = some (.int .u8 (bit (y i))) := by rw [HR.out.o hin]; exact HR.out.row i hin
          have hb1 : bit (y i) ≤ 1 := by cases y i <;> decide
          have hr0 := HR.out.r0
          have hfl := flag_yes w.heap.size o' (n - i) (n - i) r (bit (y i)) wr HR.out.rd (by omega) (Nat.le_refl _) (by omega) x1 (by omega) hb1
          rw [bit_eq] at hfl
          have HF := hide hfl
          obtain ⟨yi, hyi⟩ : ∃ yi, y i = yi := ⟨_, rfl⟩
          rw [hyi] at q1 HF
          clear hyi hfl x1 hb1
          go_wp2_with fail
          refine HF.out.mono ?_
          rintro e w1 ⟨rfl, hA⟩
          obtain ⟨o2, hR2⟩ := HR.out.next hin hA
          have HR2 := hide hR2
          clear hA hR2 HF HR q1
          go_wp2_with fail
          go_roundg (n - (i + 1))
          case measure => omega
          case rel => exact ⟨i + 1, o2, by omega, rfl, by go_num, HR2⟩
        · obtain rfl : n = i := by omega
          have hrd := HR.out.rd
          rw [Nat.sub_self] at hrd
          have c0 : wr.cell? ⟨r, 0, none⟩ = some (.slice (some ⟨w.heap.size, o', none⟩) 0 0) := by simp [World.cell?, hrd, fld]
          have c1 : wr.cell? ⟨r, 1, none⟩ = some .nilIface := by simp [World.cell?, hrd, fld]
          have HEnd := hide (end_any _ _ r wr hrd)
          have HB := hide HR.out.below
          clear hrd HR
          go_wp2_with fail
          refine HEnd.out.mono ?_
          rintro e w1 ⟨rfl, hw1⟩
          subst hw1
          go_wp2_with fail
          go_ret
          exact ⟨rfl, HB.out⟩

end Go.Proofs.YbulkavmFmt
