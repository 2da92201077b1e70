import Derived.Test.YbulkaqqFmtMake
import Derived.Deep.DeepAppendRoom
import Derived.OwnWalk
import Derived.Carry
namespace Go.Proofs.YbulkaqqFmt
open Go.RowKit Go.Maps

theorem heap_new_at (W : World) (o : Obj) {n : Nat} (h : W.heap.size = n) : (W.alloc o).heap[n]? = some o := h ▸ heap_alloc_new W o

theorem cell_new_at (W : World) (v : Value) (t : TypeId) {n : Nat} (h : W.heap.size = n) : (W.alloc (.cells #[v] t)).cell? ((⟨n, 0, none⟩ : Addr).add 0) = some v := by
  have hh := heap_new_at W (.cells #[v] t (0, 0)) h
  show (W.alloc _).cell? ⟨n, 0, none⟩ = _
  simp only [World.cell?, hh]
  rfl

theorem Scp.start (wr : World) (o : Obj) (prev : Value) : Scp wr ((((wr.alloc o).alloc (.cells #[.slice none 0 0, .int .i64 0, .int .i64 0, .int .i64 0, .slice none 0 0, .slice none 0 0, .int .i64 0, .map none] 46)).alloc (.map #[] 0)).alloc
    (.cells #[.pointer (some ⟨wr.heap.size + 1, 0, none⟩), prev, .slice none 0 0, .int .i64 0, .map (some (wr.heap.size + 1 + 1))] 51)) prev (wr.heap.size + 1 + 1 + 1) (wr.heap.size + 1) (wr.heap.size + 1 + 1) 0 (.slice none 0 0) (fun _ => 0) (fun _ _ => none) 0 := by
  refine ⟨?_, ?_, ?_, ?_, ⟨rfl, .inl ⟨rfl, rfl⟩⟩, by omega, by omega, by omega, fun j hj => absurd hj (Nat.not_lt_zero _), fun j hj => absurd hj (Nat.not_lt_zero _), fun j _ hj => absurd hj (Nat.not_lt_zero _), Nat.zero_le _⟩
  · exact ((((Below.refl _ _).alloc (Nat.le_refl _) _).alloc (by simp) _).alloc (by simp; omega) _).alloc (by simp; omega) _
  · exact heap_new_at _ _ (by simp)
  · rw [Below.heap_alloc _ _ _ (by simp), Below.heap_alloc _ _ _ (by simp)]
    exact heap_new_at _ _ (by simp)
  · have h := mapIs_made (P := Ybaf.prog) (k := 53) (kl := capLit) (ok := capOk) ((wr.alloc o).alloc (.cells #[.slice none 0 0, .int .i64 0, .int .i64 0, .int .i64 0, .slice none 0 0, .slice none 0 0, .int .i64 0, .map none] 46))
    have e : ((wr.alloc o).alloc (.cells #[.slice none 0 0, .int .i64 0, .int .i64 0, .int .i64 0, .slice none 0 0, .slice none 0 0, .int .i64 0, .map none] 46)).heap.size = wr.heap.size + 1 + 1 := by simp
    rw [e] at h
    exact h.of_block (Below.heap_alloc _ _ _ (by simp))

theorem Out.own_at {w wo wr : World} {E : Env} {SS cap : Nat} {s f c nb : Nat} {bv : Value} {mb : Nat → Nat} {mf : Nat → Nat → Option Nat} {slot : Nat} (h : Out w wo E SS cap) (hS : Scp wo wr (E.outer E.N) s f c nb bv mb mf slot) :
    (wr.setCell ⟨s, 3, none⟩ (.int .i64 (slot : Int))).ownsRow w.heap.size 33 1 (.slice (some ⟨SS, 0, none⟩) E.N cap) E.N ((List.range E.N).map fun i => .pointer (some ⟨E.sb i, 0, none⟩)) :=
  own_old h.own fun k hk => by
    have hlt := (h.own.lt k hk).2
    have := hS.s0
    rw [Below.heap_setCell _ _ _ _ (show k ≠ s by omega), hS.below.block k hlt]

theorem Ybaf.info33 : (Ybaf.prog.info? 33).map (fun i => (i.zero, i.size, i.bytes)) = some (some (.pointer none), 1, 8) := by kernel_rfl
theorem Ybaf.info59 : (Ybaf.prog.info? 59).map (fun i => (i.zero, i.size, i.bytes)) = some (some (.map none), 1, 8) := by kernel_rfl

set_option maxHeartbeats 1600000 in
set_option maxRecDepth 100000 in
theorem build_any {I : In} {w : World} (hI : I.Ok w) (hN : I.N ≤ 64) (h1 : 0 < I.N) :
    Calls Ybaf.prog 6 #[.slice I.a0 I.N I.cap] w fun e w' => ∃ E : Env, E.N = I.N ∧ e = .returned (.slice (some ⟨E.SS, 0, none⟩) E.N E.N) ∧ EOk E w.heap.size ∧ Q E w w' (fun _ => []) (fun _ => .slice none 0 0) := by
  obtain ⟨i33, hi33, y0, y1, y2⟩ := info_parts Ybaf.info33
  obtain ⟨i59, hi59, z0, z1, z2⟩ := info_parts Ybaf.info59
  have HI := hide hI
  have h0 := hI.a0 h1
  obtain ⟨a0, hea0⟩ : ∃ a, I.a0 = a := ⟨_, rfl⟩
  rw [hea0] at h0
  rw [hea0]
  clear hI hea0
  subst h0
  obtain ⟨wm, hmk, hown, hgr⟩ := run_make_own (P := Ybaf.prog) w w.heap.size 25 33 i33 _ 1 Ybaf.underlying25 hi33 y0 y1 .i64 .i64 I.N (by rw [y2]; omega) (by simp only [maxLen]; omega) (Nat.le_refl _)
  have HO0 := hide (Out.start hown hgr)
  clear hown hgr
  have hm49 : ∀ W : World, (Instr.makeMap 49 none).run Ybaf.prog W = .ok (.map (some W.heap.size)) (W.alloc (.map #[] 0)) := fun W => run_makeMap 49 W
  have hm59 : ∀ W : World, (Instr.makeMap 59 none).run Ybaf.prog W = .ok (.map (some W.heap.size)) (W.alloc (.map #[] 0)) := fun W => run_makeMap 59 W
  go_enter Ybaf.func6, Ybaf.ntmps6
  go_wp2
  go_loopg [3, 4, 22] I.N (fun g s3 s4 s22 wx => ∃ E : Env, E.N ≤ I.N ∧ g = I.N - E.N ∧ s3 = .slice (some ⟨w.heap.size, 0, none⟩) E.N I.N ∧ s4 = E.outer E.N ∧ s22 = .int .i64 (E.N : Int) ∧ Hid (Out w wx E w.heap.size I.N))
  case atStart => exact ⟨_, Nat.zero_le _, rfl, rfl, rfl, rfl, HO0⟩
  case round =>
    obtain ⟨E, hE, rfl, rfl, rfl, rfl, HO⟩ := hrel
    clear HO0 hmk
    obtain ⟨wo, hwo⟩ : ∃ wo : World, wo = wr := ⟨_, rfl⟩
    subst hwo
    by_cases hiN : E.N < I.N
    · have hb := HO.out.below
      have hbl := HI.out.blt h1
      have hz0 := hb.size
      have r1 : wo.cell? ⟨I.b, I.o + E.N, none⟩ = some (.slice (I.A E.N) (I.L E.N) (I.C E.N)) := (hb.cell hbl).trans (HI.out.row E.N hiN)
      have hz : (E.N : Int) < (I.N : Int) := by omega
      have hL := HI.out.Lb E.N hiN
      have hA := HI.out.A E.N hiN
      have hAl := HI.out.alt E.N hiN
      have HR := hide (HI.out.arow E.N hiN)
      obtain ⟨prev, hprev⟩ : ∃ p, E.outer E.N = .pointer p := by unfold Env.outer; split <;> exact ⟨_, rfl⟩
      obtain ⟨l, hl⟩ : ∃ l, I.L E.N = l := ⟨_, rfl⟩
      obtain ⟨c, hc⟩ : ∃ c, I.C E.N = c := ⟨_, rfl⟩
      obtain ⟨a, hea⟩ : ∃ a, I.A E.N = a := ⟨_, rfl⟩
      rw [hl, hc, hea] at r1
      rw [hl] at hL hA hAl HR
      rw [hea] at hA
      rw [hprev]
      have HP := hide hprev
      have HLe := hide hl
      clear hl hc hea hprev
      have HS0 := hide (HP.out ▸ Scp.start wo (.cells #[.slice a l c] 58) (E.outer E.N) : Scp wo _ (.pointer prev) _ _ _ _ _ _ _ _)
      have HB := hide hb
      clear hb
      go_wp2
      go_loopg [8, 35] l (fun g s8 s35 wx => ∃ (j : Nat) (slot : Nat) (bv : Value) (mb : Nat → Nat) (mf : Nat → Nat → Option Nat), j ≤ l ∧ g = l - j ∧ s8 = .int .i64 (slot : Int) ∧ s35 = .int .i64 (j : Int) ∧ Hid (Scp wo wx (.pointer prev) (wo.heap.size + 1 + 1 + 1) (wo.heap.size + 1) (wo.heap.size + 1 + 1) j bv mb mf slot))
      case atStart => exact ⟨0, 0, _, _, _, Nat.zero_le _, rfl, rfl, rfl, HS0⟩
      case round =>
        obtain ⟨j, slot, bv, mb, mf, hj, rfl, rfl, rfl, HS⟩ := hrel
        clear HS0
        by_cases hjl : j < l
        · obtain rfl := hA (by omega)
          have hb := HB.out
          have hb2 := HS.out.below
          have hz1 := hb2.size
          have hal := hAl (by omega)
          have q1 : wr.cell? ⟨I.ab E.N, I.ao E.N + j, none⟩ = some (.slice (I.B E.N j) (I.M E.N j) (I.D E.N j)) := ((hb2.cell (show I.ab E.N < wo.heap.size by omega)).trans (hb.cell hal)).trans (HR.out j hjl)
          have hzj : (j : Int) < (l : Int) := by omega
          have hM := HI.out.Mb E.N hiN j (HLe.out ▸ hjl)
          have hBB := HI.out.B E.N hiN j (HLe.out ▸ hjl)
          have hBl := HI.out.blt2 E.N hiN j (HLe.out ▸ hjl)
          have HR3 := hide (HI.out.brow E.N hiN j (HLe.out ▸ hjl))
          obtain ⟨ml, hml⟩ : ∃ m, I.M E.N j = m := ⟨_, rfl⟩
          obtain ⟨md, hmd⟩ : ∃ m, I.D E.N j = m := ⟨_, rfl⟩
          obtain ⟨ma, hma⟩ : ∃ m, I.B E.N j = m := ⟨_, rfl⟩
          rw [hml, hmd, hma] at q1
          rw [hml] at hM hBB hBl HR3
          rw [hma] at hBB
          clear hml hmd hma
          have hslot := HS.out.slotB
          have HY0 := hide (Byt.start wr slot)
          have HB2 := hide hb2
          clear hb hb2
          obtain ⟨wj, hwj⟩ : ∃ wj : World, wj = wr := ⟨_, rfl⟩
          subst hwj
          go_wp2
          go_loopg [8, 42] ml (fun g s8 s42 wx => ∃ (p slot' n : Nat) (f : Nat → Option Nat), p ≤ ml ∧ g = ml - p ∧ s8 = .int .i64 (slot' : Int) ∧ s42 = .int .i64 (p : Int) ∧ Hid (Byt (wj.alloc (.map #[] 0)) wx wj.heap.size slot slot' n f))
          case atStart => exact ⟨0, slot, 0, _, Nat.zero_le _, rfl, rfl, rfl, HY0⟩
          case round =>
            obtain ⟨p, slot', n, f, hp, rfl, rfl, rfl, HY⟩ := hrel
            clear HY0
            by_cases hpl : p < ml
            · obtain rfl := hBB (by omega)
              have hbl2 := hBl (by omega)
              have hy := HY.out.below
              have t1 : wr.cell? ⟨I.bb E.N j, I.bo E.N j + p, none⟩ = some (.int .u8 (I.x E.N j p : Int)) := by
                rw [hy.cell (show I.bb E.N j < wj.heap.size by omega), World.cell?_of_block (w := wj) (Below.heap_alloc _ _ _ (show I.bb E.N j < wj.heap.size by omega)), HB2.out.cell (show I.bb E.N j < wo.heap.size by omega), HB.out.cell hbl2]
                exact HR3.out p hpl
              have hx := HI.out.x E.N j p
              have hzp : (p : Int) < (ml : Int) := by omega
              clear hy
              have hcall := name_any (I.x E.N j p % 5) (by omega) wr
              rw [show ((I.x E.N j p % 5 : Nat) : Int) = (I.x E.N j p : Int) % 5 by omega] at hcall
              have hlook := HY.out.look (k := I.x E.N j p % 5) (by omega)
              have HAdd := hide (fun hn => HY.out.add (k := I.x E.N j p % 5) (by omega) hn (by omega))
              have hle := HY.out.le
              obtain ⟨kk, hkk⟩ : ∃ kk, I.x E.N j p % 5 = kk := ⟨_, rfl⟩
              rw [hkk] at hcall hlook HAdd
              clear hkk
              obtain ⟨ns, hns⟩ : ∃ ns, nameS kk = ns := ⟨_, rfl⟩
              rw [hns] at hcall hlook HAdd
              clear hns
              have HCall := hide hcall
              clear hcall
              go_wp2_with fail
              refine HCall.out.mono ?_
              rintro e w1 ⟨rfl, rfl⟩
              clear HCall t1
              cases hf : f kk with
              | some y =>
                rw [hf] at hlook
                simp only [Option.getD_some, Option.isSome_some] at hlook
                clear hf
                go_wp2
                go_roundg (ml - (p + 1))
                case measure => omega
                case rel => exact ⟨p + 1, slot', n, f, by omega, rfl, rfl, by go_num, HY⟩
              | none =>
                rw [hf] at hlook
                simp only [Option.getD_none, Option.isSome_none] at hlook
                obtain ⟨w2, hup, hY2⟩ := HAdd.out hf
                have HY2 := hide hY2
                clear hY2 hf
                go_wp2
                go_roundg (ml - (p + 1))
                case measure => omega
                case rel => exact ⟨p + 1, slot' + 1, n + 1, _, by omega, rfl, by go_num, by go_num, HY2⟩
            · obtain ⟨ao, cc, hbv⟩ := own_slice HS.out.own
              obtain ⟨c2, hsl, hbase, hown3, hadd⟩ := HS.out.add HY.out
              subst hbv
              have HAdd := hide hadd
              have HO3 := hide hown3
              clear hadd hown3
              go_wp2_with (first
                | (at_builtin; refine wpList_append_own _ rfl _ _ 48 rfl wo.heap.size 59 i59 (.map none) 1 8 Ybaf.underlying48 hi59 z0 z1 z2 rfl (by decide) _ _ _ rfl (HO3.out.alloc _) ⟨wr.heap.size, 0, none⟩ 1 1 [.map (some wj.heap.size)] rfl rfl ?c1 ?c2 ?c3 ?c4 ?c5 ?_)
                | go_in)
              case c1 =>
                intro q u hq
                match q, hq with
                | 0, hq => simp at hq; subst hq; simp [Addr.add]
              case c2 => intro u hu; simp at hu; subst hu; rfl
              case c3 => simp only [maxLen]; omega
              case c4 => omega
              case c5 => simp; omega
              intro v5 w5 ho5 hg5 _
              obtain ⟨d1, d2, d3⟩ := HAdd.out v5 w5 ho5 hg5
              obtain ⟨ao5, cc5, hv5⟩ := own_slice ho5
              subst hv5
              have HS5 := hide d3
              clear d3 ho5 hg5 HAdd HO3 c2 hsl
              go_wp2
              go_roundg (l - (j + 1))
              case measure => omega
              case rel => exact ⟨j + 1, slot', _, _, _, by omega, rfl, rfl, by go_num, HS5⟩
        · have hS := HS.out
          rw [← HP.out] at hS
          have s1 : wr.cell? ⟨wo.heap.size + 1 + 1 + 1, 3, none⟩ = some (.int .i64 0) := by simp [World.cell?, hS.scp]
          have s2 : wr.frozen? ⟨wo.heap.size + 1 + 1 + 1, 3, none⟩ = false := by simp [World.frozen?, hS.scp]
          have hown := HO.out.own_at hS (slot := slot)
          have HAdd := hide (fun w8 => HO.out.add (w8 := w8) hS (by omega) (by omega))
          have hwz : w.heap.size ≤ wr.heap.size := by have := hS.below.size; omega
          have HOw := hide hown
          clear hown hS
          go_wp2_with (first
            | (at_builtin; refine wpList_append_own_spare _ rfl _ _ 25 rfl w.heap.size 33 i33 1 Ybaf.underlying25 hi33 y1 w.heap.size E.N I.N _ rfl (HOw.out.alloc _) ⟨wr.heap.size, 0, none⟩ 1 1 [.pointer (some ⟨wo.heap.size + 1 + 1 + 1, 0, none⟩)] rfl rfl ?c1 ?c2 ?c3 ?_)
            | go_in)
          case c1 =>
            intro q u hq
            match q, hq with
            | 0, hq =>
              simp at hq
              subst hq
              exact cell_new_at _ _ _ (by simp [World.setCell])
          case c2 => intro u hu; simp at hu; subst hu; rfl
          case c3 => omega
          intro w8 ho8 hg8
          have HO8 := hide (HAdd.out w8 ho8 hg8)
          clear ho8 hg8 HAdd HOw s1 s2
          go_wp2
          go_roundg (I.N - (E.N + 1))
          case measure => omega
          case rel => exact ⟨_, by show E.N + 1 ≤ I.N; omega, rfl, rfl, by simp [Env.outer, Env.push], by show _ = Value.int .i64 ((E.N + 1 : Nat) : Int); go_num, HO8⟩
    · go_wp2
      go_ret
      have e : E.N = I.N := by omega
      have hO := HO.out
      exact ⟨E, e, by rw [hO.ss, ← e]; rfl, hO.ok, (e ▸ hO : Out w _ E w.heap.size E.N).done⟩

end Go.Proofs.YbulkaqqFmt
