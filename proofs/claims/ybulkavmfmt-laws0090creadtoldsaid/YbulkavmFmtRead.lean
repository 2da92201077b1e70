import Derived.Test.YbulkavmFmtErrorf
namespace Go.Proofs.YbulkavmFmt
open Go.RowKit Go.Extern.Stop Go.Stop Go.Extern

theorem Aft.set1 {w w1 : World} {r : Nat} {v e : Value} (h : Aft w w1 r v e) (e' : Value) : Aft w (w1.setCell ⟨r, 1, none⟩ e') r v e' :=
  ⟨fun k hk hne => by rw [Below.heap_setCell _ _ _ _ hne]; exact h.below k hk hne, by have := h.size; simpa [World.setCell] using this, h.os, h.tape, h.output, by rw [setCell_same _ _ _ _ _ _ h.rd]; rfl⟩
theorem Aft.alloc {w w1 : World} {r : Nat} {v e : Value} (h : Aft w w1 r v e) (o : Obj) : Aft w (w1.alloc o) r v e := by
  have hr : r < w1.heap.size := (Array.getElem?_eq_some_iff.1 h.rd).1
  exact ⟨fun k hk hne => by rw [Below.heap_alloc _ _ _ (Nat.lt_of_lt_of_le hk h.size)]; exact h.below k hk hne, by have := h.size; simp; omega, h.os, h.tape, h.output, by rw [Below.heap_alloc _ _ _ hr]; exact h.rd⟩
theorem Aft.drew {w w1 : World} {r : Nat} {v e : Value} (h : Aft w w1 r v e) : Aft w w1.drew r v e := ⟨h.below, h.size, h.os, h.tape, h.output, h.rd⟩
theorem Aft.drewN {w w1 : World} {r : Nat} {v e : Value} (h : Aft w w1 r v e) (q : Nat) : Aft w (w1.drewN q) r v e := ⟨h.below, h.size, h.os, h.tape, h.output, h.rd⟩
/-- The reader is a block of the call's own: old memory stands. -/
theorem Aft.old {w0 w w1 : World} {r : Nat} {v e : Value} (h : Aft w w1 r v e) (hb : Below w0.heap.size w0 w) (hr : w0.heap.size ≤ r) : Below w0.heap.size w0 w1 :=
  hb.trans ⟨h.os, h.tape, h.output, h.size, fun k hk => h.below k (Nat.lt_of_lt_of_le hk hb.size) (by omega)⟩

set_option maxHeartbeats 400000 in
theorem flag_big (F : Interp) (g o l c r : Nat) (x : Int) (w : World) (hF : F.answers w.tape) (h : w.heap[r]? = some (fld (.slice (some ⟨g, o, none⟩) l c) .nilIface)) (hl : 0 < l) (hc : l ≤ c) (hcB : c < 9223372036854775808) (hx : w.cell? ⟨g, o, none⟩ = some (.int .u8 x)) (hgr : g ≠ r) (hx1 : 1 < x) :
    Calls Ybaf.prog 6 #[.pointer (some ⟨r, 0, none⟩)] w fun e w' => e = .returned (.bool false) ∧ ∃ t p, Aft w w' r (.slice (some (tl g o c)) (l - 1) (c - 1)) (.iface t (.pointer (some p))) := by
  have HN := hide (byte_yes g o l c r x w h hl hc hcB hx hgr)
  have hr : r < w.heap.size := (Array.getElem?_eq_some_iff.1 h).1
  clear h hx
  have hz : ¬ x = 1 := by omega
  go_enter Ybaf.func6, Ybaf.ntmps6
  go_wp2_with fail
  refine HN.out.mono ?_
  rintro e w1 ⟨rfl, hA⟩
  have c1 : w1.cell? ⟨r, 1, none⟩ = some .nilIface := by simp [World.cell?, hA.rd, fld]
  have f1 : w1.frozen? ⟨r, 1, none⟩ = false := by simp [World.frozen?, hA.rd, fld]
  have hF1 : F.answers w1.tape := by rw [hA.tape]; exact hF
  have hr1 : r < w1.heap.size := Nat.lt_of_lt_of_le hr hA.size
  have HA := hide hA
  clear hA HN
  go_wp2_with fail
  refine Calls.mono (errorf_any F x w1.heap.size _ (by exact hF1) ?hc) ?_
  case hc => simp
  rintro e w2 ⟨t, p, o2, rfl, rfl⟩
  go_wp2_with fail
  go_ret
  have hxb : (x == 1) = false := by simp; omega
  exact ⟨by show Ending.returned (.bool (x == 1)) = _; rw [hxb], t, p, (((HA.out.set1 _).alloc _).alloc _).drew⟩

/-- bytes.Equal of a slice with itself. -/
theorem equal_same (a : Option Addr) (l c : Nat) (s : ByteArray) (w : World) (h : (convert 22 9 (.slice a l c)).run Ybaf.prog w = .ok (.string s) w) : Calls Ybaf.prog 7 #[.slice a l c, .slice a l c] w fun e w' => e = .returned (.bool true) ∧ w' = w := by
  go_enter Ybaf.func7, Ybaf.ntmps7
  go_wp2
  go_ret
  exact ⟨rfl, rfl⟩

/-- What the law is handed. -/
structure Arg (w : World) (a : Option Addr) (n cap b o : Nat) (f : Nat → Int) : Prop where
  pos : 0 < n → a = some ⟨b, o, none⟩
  lt : 0 < n → b < w.heap.size
  row : ∀ i, i < n → w.cell? ⟨b, o + i, none⟩ = some (.int .u8 (f i))
  nc : n ≤ cap
  cB : cap < 9223372036854775808

theorem fld_two (w : World) (v e : Value) (o : Obj) : ((w.alloc (fld v e)).alloc o).heap[w.heap.size]? = some (fld v e) := by
  rw [Below.heap_alloc _ _ _ (by simp)]
  exact heap_alloc_new w _

set_option maxHeartbeats 800000 in
theorem read_err {w : World} (a : Option Addr) (n cap : Nat) (hn : n ≤ 1024) :
    Calls Ybaf.prog 3 #[.slice a n cap, .bool true] w fun e w' => e = .returned (.bool true) ∧ Below w.heap.size w w' := by
  have hz : ¬ (1024 : Int) < (n : Int) := by omega
  have HF := hide (fun o => flag_no a n cap w.heap.size (.iface 35 (.pointer (some ⟨w.heap.size + 1, 0, none⟩))) ((w.alloc (fld (.slice a n cap) (.iface 35 (.pointer (some ⟨w.heap.size + 1, 0, none⟩))))).alloc o) (fld_two _ _ _ _) (.inr ⟨_, _, rfl⟩))
  simp only [fld] at HF
  go_enter Ybaf.func3, Ybaf.ntmps3
  go_wp2_with fail
  refine (new_any _ _).mono ?_
  rintro e w1 ⟨rfl, rfl⟩
  go_wp2_with fail
  refine (HF.out _).mono ?_
  rintro e w2 ⟨rfl, p, hA⟩
  have c0 : w2.cell? ⟨w.heap.size, 0, none⟩ = some (.slice a n cap) := by simp [World.cell?, hA.rd, fld]
  have c1 : w2.cell? ⟨w.heap.size, 1, none⟩ = some (.iface 35 (.pointer (some p))) := by simp [World.cell?, hA.rd, fld]
  have HB := hide (hA.old (((Below.refl _ w).alloc (Nat.le_refl _) _).alloc (by simp) _) (Nat.le_refl _))
  clear hA HF
  go_wp2_with fail
  go_ret
  exact ⟨rfl, HB.out⟩

set_option maxHeartbeats 800000 in
theorem read_none {w : World} (a : Option Addr) (cap : Nat) :
    Calls Ybaf.prog 3 #[.slice a 0 cap, .bool false] w fun e w' => e = .returned (.bool true) ∧ Below w.heap.size w w' := by
  have HF := hide (flag_no a 0 cap w.heap.size .nilIface (w.alloc (fld (.slice a 0 cap) .nilIface)) (heap_alloc_new _ _) (.inl ⟨rfl, rfl⟩))
  simp only [fld] at HF
  go_enter Ybaf.func3, Ybaf.ntmps3
  go_wp2_with fail
  refine HF.out.mono ?_
  rintro e w2 ⟨rfl, p, hA⟩
  have c0 : w2.cell? ⟨w.heap.size, 0, none⟩ = some (.slice a 0 cap) := by simp [World.cell?, hA.rd, fld]
  have c1 : w2.cell? ⟨w.heap.size, 1, none⟩ = some (.iface 35 (.pointer (some p))) := by simp [World.cell?, hA.rd, fld]
  have HB := hide (hA.old ((Below.refl _ w).alloc (Nat.le_refl _) _) (Nat.le_refl _))
  clear hA HF
  go_wp2_with fail
  go_ret
  exact ⟨rfl, HB.out⟩

/-- string(b[1:]), in a world that has kept the bytes. -/
theorem conv_tl {g o n c : Nat} {f : Nat → Int} (hn : 0 < n) (hc : n ≤ c) :
    ∃ s, ∀ w : World, (∀ i, i < n → w.cell? ⟨g, o + i, none⟩ = some (.int .u8 (f i))) → (convert 22 9 (.slice (some (tl g o c)) (n - 1) (c - 1))).run Ybaf.prog w = .ok (.string s) w := by
  unfold tl
  by_cases h1 : c = 1
  · rw [if_pos h1]
    obtain rfl : n = 1 := by omega
    exact ⟨_, fun w _ => run_convert_bytes_arg w 22 5 Ybaf.underlying22 Ybaf.underlying5 g o 0 (c - 1) [] rfl (fun i hi => absurd hi (Nat.not_lt_zero _)) 9 Ybaf.underlying9⟩
  · rw [if_neg h1]
    refine ⟨_, fun w h => run_convert_bytes_arg w 22 5 Ybaf.underlying22 Ybaf.underlying5 g (o + 1) (n - 1) (c - 1) ((List.range (n - 1)).map fun i => f (i + 1)) (by simp) (fun i hi => ?_) 9 Ybaf.underlying9⟩
    rw [show o + 1 + i = o + (i + 1) by omega, h (i + 1) (by omega)]
    simp [hi]

set_option maxHeartbeats 1600000 in
theorem read_some (F : Interp) {w : World} (hF : F.answers w.tape) {n cap b o : Nat} {f : Nat → Int} (hA : Arg w (some ⟨b, o, none⟩) n cap b o f) (hn : n ≤ 1024) (h0 : 0 < n) :
    Calls Ybaf.prog 3 #[.slice (some ⟨b, o, none⟩) n cap, .bool false] w fun e w' => e = .returned (.bool true) ∧ Below w.heap.size w w' := by
  have hz : ¬ (1024 : Int) < (n : Int) := by omega
  have hblt := hA.lt h0
  have hrow := hA.row
  have hnc := hA.nc
  have hcB := hA.cB
  have x0 : w.cell? ⟨b, o, none⟩ = some (.int .u8 (f 0)) := hrow 0 h0
  have x1 : (w.alloc (fld (.slice (some ⟨b, o, none⟩) n cap) .nilIface)).cell? ⟨b, o, none⟩ = some (.int .u8 (f 0)) := by
    rw [World.cell?_of_block (w := w) (Below.heap_alloc _ _ _ hblt)]; exact x0
  have n0 : ((n : Int) == 0) = false := by simp; omega
  have hnz : (0 : Int) < (n : Int) := by omega
  have HRow := hide hrow
  obtain ⟨x, hx⟩ : ∃ x, f 0 = x := ⟨_, rfl⟩
  rw [hx] at x0 x1
  clear hrow hA hx
  have hne : b ≠ w.heap.size := by omega
  have hcs : cap = 1 ∨ ¬ cap = 1 := by omega
  by_cases hx1 : x ≤ 1
  · have HFl := hide (flag_yes b o n cap w.heap.size x (w.alloc (fld (.slice (some ⟨b, o, none⟩) n cap) .nilIface)) (heap_alloc_new _ _) h0 hnc hcB x1 hne hx1)
    simp only [fld] at HFl
    clear x1
    go_enter Ybaf.func3, Ybaf.ntmps3
    go_wp2_with fail
    refine HFl.out.mono ?_
    rintro e w2 ⟨rfl, hAf⟩
    have c0 : w2.cell? ⟨w.heap.size, 0, none⟩ = some (.slice (some (tl b o cap)) (n - 1) (cap - 1)) := by simp [World.cell?, hAf.rd, fld]
    have c1 : w2.cell? ⟨w.heap.size, 1, none⟩ = some .nilIface := by simp [World.cell?, hAf.rd, fld]
    have hB := hAf.old ((Below.refl _ w).alloc (Nat.le_refl _) _) (Nat.le_refl _)
    have y0 : w2.cell? ⟨b, o, none⟩ = some (.int .u8 x) := (hB.cell hblt).trans x0
    obtain ⟨s, hs⟩ := conv_tl (g := b) (o := o) (f := f) h0 hnc
    have HE := hide (fun q => equal_same (some (tl b o cap)) (n - 1) (cap - 1) s (w2.drewN q) (hs (w2.drewN q) (fun i hi => (hB.cell hblt).trans (HRow.out i hi))))
    have HB := hide hB
    clear hAf HFl hB hs x0
    have hz1 : (1 : Int) ≤ (n : Int) := by omega
    unfold tl at c0 HE
    rcases hcs with rfl | h1
    · obtain rfl : n = 1 := by omega
      simp only [if_true] at c0 HE
      go_wp2_with fail
      go_quiet ((go_at_call 7; exact Calls.quiet_of_same (HE.out _)))
      go_wp2
      go_ret
      exact ⟨rfl, below_drewN HB.out _⟩
    · simp only [if_neg h1] at c0 HE
      go_wp2_with fail
      go_quiet ((go_at_call 7; exact Calls.quiet_of_same (HE.out _)))
      go_wp2
      go_ret
      exact ⟨rfl, below_drewN HB.out _⟩
  · have HFl := hide (flag_big F b o n cap w.heap.size x (w.alloc (fld (.slice (some ⟨b, o, none⟩) n cap) .nilIface)) hF (heap_alloc_new _ _) h0 hnc hcB x1 hne (by omega))
    simp only [fld] at HFl
    clear x1
    have hxb : (x == 1) = false := by simp; omega
    have hxl : ¬ x ≤ 1 := by omega
    go_enter Ybaf.func3, Ybaf.ntmps3
    go_wp2_with fail
    refine HFl.out.mono ?_
    rintro e w2 ⟨rfl, t, p, hAf⟩
    have c0 : w2.cell? ⟨w.heap.size, 0, none⟩ = some (.slice (some (tl b o cap)) (n - 1) (cap - 1)) := by simp [World.cell?, hAf.rd, fld]
    have c1 : w2.cell? ⟨w.heap.size, 1, none⟩ = some (.iface t (.pointer (some p))) := by simp [World.cell?, hAf.rd, fld]
    have hB := hAf.old ((Below.refl _ w).alloc (Nat.le_refl _) _) (Nat.le_refl _)
    have y0 : w2.cell? ⟨b, o, none⟩ = some (.int .u8 x) := (hB.cell hblt).trans x0
    obtain ⟨s, hs⟩ := conv_tl (g := b) (o := o) (f := f) h0 hnc
    have HE := hide (fun q => equal_same (some (tl b o cap)) (n - 1) (cap - 1) s (w2.drewN q) (hs (w2.drewN q) (fun i hi => (hB.cell hblt).trans (HRow.out i hi))))
    have HB := hide hB
    clear hAf HFl hB hs x0
    have hz1 : (1 : Int) ≤ (n : Int) := by omega
    unfold tl at c0 HE
    rcases hcs with rfl | h1
    · obtain rfl : n = 1 := by omega
      simp only [if_true] at c0 HE
      go_wp2_with fail
      go_quiet ((go_at_call 7; exact Calls.quiet_of_same (HE.out _)))
      go_wp2
      go_ret
      exact ⟨rfl, below_drewN HB.out _⟩
    · simp only [if_neg h1] at c0 HE
      go_wp2_with fail
      go_quiet ((go_at_call 7; exact Calls.quiet_of_same (HE.out _)))
      go_wp2
      go_ret
      exact ⟨rfl, below_drewN HB.out _⟩

end Go.Proofs.YbulkavmFmt
