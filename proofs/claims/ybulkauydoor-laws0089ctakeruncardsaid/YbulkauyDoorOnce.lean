import Derived.Test.YbulkauyDoorTake
import Derived.Laws.AppendOwn
import Derived.Laws.AppendOwnNone
import Derived.LaidEql
import Derived.Below
import Derived.Deep.DeepCutAuto
namespace Go.Proofs.YbulkauyDoor
open Go.RowKit

theorem Ybad.info5 : (Ybad.prog.info? 5).map (fun i => (i.zero, i.size, i.bytes)) = some (some (.int .u8 0), 1, 1) := by kernel_rfl

theorem err_same (a : Addr) (w : World) : (binOp .eql 56 (.iface 83 (.pointer (some a))) (.iface 83 (.pointer (some a)))).run Ybad.prog w = .ok (.bool true) w := by
  obtain ⟨i, hi, hc⟩ := Option.map_eq_some_iff.1 (show (Ybad.prog.info? 83).map (·.comparable) = some true by kernel_rfl)
  obtain ⟨j, hj, _⟩ := Option.map_eq_some_iff.1 (show (Ybad.prog.info? 85).map (·.size) = some 1 by kernel_rfl)
  exact run_eql_iface_ptr_same w a Ybad.underlying56 Ybad.underlying83 hi hc hj

theorem err_same_not (a : Addr) (w : World) : (binOp .neq 56 (.iface 83 (.pointer (some a))) (.iface 83 (.pointer (some a)))).run Ybad.prog w = .ok (.bool false) w := by
  obtain ⟨i, hi, hc⟩ := Option.map_eq_some_iff.1 (show (Ybad.prog.info? 83).map (·.comparable) = some true by kernel_rfl)
  obtain ⟨j, hj, _⟩ := Option.map_eq_some_iff.1 (show (Ybad.prog.info? 85).map (·.size) = some 1 by kernel_rfl)
  simp only [binOp]
  simp [Op.equal, Op.maxDepth, run_equalIn_iface_ptr_same w 9998 a Ybad.underlying56 Ybad.underlying83 hi hc hj]

theorem nil_same (w : World) : (binOp .eql 65 (.slice none 0 0) (.slice none 0 0)).run Ybad.prog w = .ok (.bool true) w := by
  have h : ∀ d : Nat, (Op.equalIn (d + 1) 65 (.slice none 0 0) (.slice none 0 0)).run Ybad.prog w = .ok true w := fun d => by simp [Op.equalIn, run_underlying Ybad.underlying65]
  simp only [binOp]
  simp [Op.equal, Op.maxDepth, h 9999]
theorem nil_same_not (w : World) : (binOp .neq 65 (.slice none 0 0) (.slice none 0 0)).run Ybad.prog w = .ok (.bool false) w := by
  have h : ∀ d : Nat, (Op.equalIn (d + 1) 65 (.slice none 0 0) (.slice none 0 0)).run Ybad.prog w = .ok true w := fun d => by simp [Op.equalIn, run_underlying Ybad.underlying65]
  simp only [binOp]
  simp [Op.equal, Op.maxDepth, h 9999]

theorem setCell_same (w : World) (b o : Nat) (v : Value) (cs : Array Value) (t : TypeId) (h : w.heap[b]? = some (.cells cs t (0, 0))) : (w.setCell ⟨b, o, none⟩ v).heap[b]? = some (.cells (cs.setIfInBounds o v) t (0, 0)) := by
  simp [World.setCell, Array.getElem?_modify, h]

/-- The bytes that came in. -/
structure Dat (w : World) (a : Option Addr) (n cap b o : Nat) (f : Nat → Int) : Prop where
  pos : 0 < n → a = some ⟨b, o, none⟩
  row : ∀ i, i < n → w.cell? ⟨b, o + i, none⟩ = some (.int .u8 (f i))
  nl : a = none → n = 0 ∧ cap = 0

/-- The copy that the law makes: 'buf'. -/
structure Buf (w w1 : World) (a : Option Addr) (n c g : Nat) (f : Nat → Int) : Prop where
  below : Below w.heap.size w w1
  at_ : (a = none ∧ n = 0 ∧ c = 0) ∨ a = some ⟨g, 0, none⟩
  lt : n ≤ c
  cB : c < 9223372036854775808
  row : ∀ i, i < n → w1.cell? ⟨g, i, none⟩ = some (.int .u8 (f i))
  glt : 0 < n → g < w1.heap.size

theorem buf_of {w w1 : World} {v : Value} {n : Nat} {f : Nat → Int} (ho : w1.ownsRow w.heap.size 5 1 v n ((List.range n).map fun i => .int .u8 (f i))) (hg : w.grownBy w1 none) : ∃ a c g, v = .slice a n c ∧ Buf w w1 a n c g f := by
  have hb : Below w.heap.size w w1 := ⟨hg.os, hg.tape, hg.output, hg.size, fun k hk => hg.block k hk (by simp)⟩
  rcases ho.2 with ⟨rfl, rfl⟩ | ⟨g, cap, cur, rfl, hgb, hh, hle, hm, hsz, htk⟩
  · exact ⟨none, 0, 0, rfl, hb, .inl ⟨rfl, rfl, rfl⟩, Nat.le_refl _, by omega, fun i hi => absurd hi (Nat.not_lt_zero _), fun h => absurd h (Nat.lt_irrefl _)⟩
  · refine ⟨some ⟨g, 0, none⟩, cap, g, rfl, hb, .inr rfl, hle, by simp only [maxLen] at hm; omega, fun i hi => ?_, fun _ => (Array.getElem?_eq_some_iff.1 hh).1⟩
    have h1 : (cur.toList.take (n * 1))[i]? = some (.int .u8 (f i)) := by
      rw [htk]
      simp [hi]
    rw [List.getElem?_take_of_lt (by omega)] at h1
    simp only [World.cell?, hh]
    simpa using h1

theorem Buf.at0 {w w1 : World} {a : Option Addr} {n c g : Nat} {f : Nat → Int} (h : Buf w w1 a n c g f) : At a g 0 n c := by
  rcases h.at_ with h | h
  · exact .inl h
  · exact .inr ⟨0, h, fun _ => rfl⟩

/-- 'append([]byte(nil), data...)', as one step. -/
theorem wpList_copy {w : World} {a : Option Addr} {n cap b o : Nat} {f : Nat → Int} (hD : Dat w a n cap b o f) (hn : n ≤ 1024) {ops : Array Oper} {rest : List Oper} {op : Oper} {act : Act} {Q : Exit → Act → World → Prop} (hgd : op.guard = none) (x : Operand)
    (ho : op.op = .call { callee := .builtin .append, args := #[.const (.slice none 0 0), x], argTypes := #[65, 65] }) (hx : act.eval x = .slice a n cap)
    (h : ∀ a' c g w1, Buf w w1 a' n c g f → wpList Ybad.prog ops Q rest (act.put op.dst (.slice a' n c)) w1) : wpList Ybad.prog ops Q (op :: rest) act w := by
  obtain ⟨i5, hi5, z0, z1, z2⟩ := info_parts Ybad.info5
  cases a with
  | none =>
    obtain ⟨rfl, rfl⟩ := hD.nl rfl
    refine wpList_append_own_none hgd (.const (.slice none 0 0)) x 65 ho w.heap.size 5 i5 1 Ybad.underlying65 hi5 (.slice none 0 0) 0 [] rfl (World.ownsRow_nil _ _ _ _) hx ?_
    exact h none 0 0 w ⟨Below.refl _ _, .inl ⟨rfl, rfl, rfl⟩, Nat.le_refl _, by omega, fun i hi => absurd hi (Nat.not_lt_zero _), fun h => absurd h (Nat.lt_irrefl _)⟩
  | some ad =>
    refine wpList_append_own w hgd (.const (.slice none 0 0)) x 65 ho w.heap.size 5 i5 (.int .u8 0) 1 1 Ybad.underlying65 hi5 z0 z1 z2 rfl (by decide) (.slice none 0 0) 0 [] rfl (World.ownsRow_nil _ _ _ _) ad n cap ((List.range n).map fun i => .int .u8 (f i)) hx (by simp) ?_ ?_ (by simp only [maxLen]; omega) (by omega) (Nat.le_refl _) ?_
    · intro j u hj
      have hjn : j < n := by
        rcases Nat.lt_or_ge j n with h | h
        · exact h
        · rw [List.getElem?_eq_none (by simpa using h)] at hj; cases hj
      have e := hD.pos (by omega)
      cases e
      have e2 : (⟨b, o, none⟩ : Addr).add j = ⟨b, o + j, none⟩ := by simp [Addr.add]
      rw [e2, hD.row j hjn]
      simp [hjn] at hj
      rw [hj]
    · intro u hu; simp at hu; obtain ⟨i, _, rfl⟩ := hu; rfl
    · intro v w1 hown hg _
      simp only [Nat.zero_add, List.nil_append] at hown
      obtain ⟨a', c, g, rfl, hB⟩ := buf_of hown hg
      exact h a' c g w1 hB

/-- The reader in memory, and the copy's bytes. -/
theorem Buf.bytes {w w1 W : World} {a : Option Addr} {n c g : Nat} {f : Nat → Int} (h : Buf w w1 a n c g f) (hb : ∀ k, k < w1.heap.size → W.heap[k]? = w1.heap[k]?) : ∀ i, i < n → W.cell? ⟨g, i, none⟩ = some (.int .u8 (f i)) := fun i hi => by
  rw [World.cell?_of_block (w := w1) (hb g (h.glt (by omega)))]
  exact h.row i hi

theorem rdr_set0 {w w1 : World} {a : Option Addr} {n c g : Nat} {f : Nat → Int} (h : Buf w w1 a n c g f) (v v' e : Value) :
    ((w1.alloc (.cells #[v, e] 68)).setCell ⟨w1.heap.size, 0, none⟩ v').cell? ⟨w1.heap.size, 0, none⟩ = some v' ∧ ((w1.alloc (.cells #[v, e] 68)).setCell ⟨w1.heap.size, 0, none⟩ v').cell? ⟨w1.heap.size, 1, none⟩ = some e ∧
      (∀ i, i < n → ((w1.alloc (.cells #[v, e] 68)).setCell ⟨w1.heap.size, 0, none⟩ v').cell? ⟨g, i, none⟩ = some (.int .u8 (f i))) ∧ Below w.heap.size w ((w1.alloc (.cells #[v, e] 68)).setCell ⟨w1.heap.size, 0, none⟩ v') := by
  have h0 : (w1.alloc (.cells #[v, e] 68)).heap[w1.heap.size]? = some (.cells #[v, e] 68) := heap_alloc_new w1 _
  have hs : ((w1.alloc (.cells #[v, e] 68)).setCell ⟨w1.heap.size, 0, none⟩ v').heap[w1.heap.size]? = some (.cells #[v', e] 68) := by
    rw [setCell_same _ _ _ _ _ _ h0]; rfl
  refine ⟨by simp only [World.cell?, hs]; rfl, by simp only [World.cell?, hs]; rfl, h.bytes fun k hk => ?_, (h.below.alloc h.below.size _).setCell h.below.size _⟩
  rw [Below.heap_setCell _ _ _ _ (show k ≠ w1.heap.size by omega), Below.heap_alloc _ _ _ hk]

theorem rdr_set1 {w w1 : World} {a : Option Addr} {n c g : Nat} {f : Nat → Int} (h : Buf w w1 a n c g f) (v e e' : Value) :
    ((w1.alloc (.cells #[v, e] 68)).setCell ⟨w1.heap.size, 1, none⟩ e').cell? ⟨w1.heap.size, 0, none⟩ = some v ∧ ((w1.alloc (.cells #[v, e] 68)).setCell ⟨w1.heap.size, 1, none⟩ e').cell? ⟨w1.heap.size, 1, none⟩ = some e' ∧
      (∀ i, i < n → ((w1.alloc (.cells #[v, e] 68)).setCell ⟨w1.heap.size, 1, none⟩ e').cell? ⟨g, i, none⟩ = some (.int .u8 (f i))) ∧ Below w.heap.size w ((w1.alloc (.cells #[v, e] 68)).setCell ⟨w1.heap.size, 1, none⟩ e') := by
  have h0 : (w1.alloc (.cells #[v, e] 68)).heap[w1.heap.size]? = some (.cells #[v, e] 68) := heap_alloc_new w1 _
  have hs : ((w1.alloc (.cells #[v, e] 68)).setCell ⟨w1.heap.size, 1, none⟩ e').heap[w1.heap.size]? = some (.cells #[v, e'] 68) := by
    rw [setCell_same _ _ _ _ _ _ h0]; rfl
  refine ⟨by simp only [World.cell?, hs]; rfl, by simp only [World.cell?, hs]; rfl, h.bytes fun k hk => ?_, (h.below.alloc h.below.size _).setCell h.below.size _⟩
  rw [Below.heap_setCell _ _ _ _ (show k ≠ w1.heap.size by omega), Below.heap_alloc _ _ _ hk]

set_option maxHeartbeats 800000 in
theorem once_main {w : World} {a : Option Addr} {n cap b o : Nat} {f : Nat → Int} (hD : Dat w a n cap b o f) (hn : n ≤ 1024) (k : Nat) (hk : k < 4294967296) (pa : Addr) (hG : w.cell? ⟨1, 0, none⟩ = some (.iface 83 (.pointer (some pa)))) :
    Calls Ybad.prog 4 #[.slice a n cap, .int .u32 (k : Int)] w fun e w' => e = .returned (.bool true) ∧ Below w.heap.size w w' := by
  have hz : ¬ (1024 : Int) < (n : Int) := by omega
  have HD := hide hD
  clear hD
  go_enter Ybad.func4, Ybad.ntmps4
  go_wp2_with (first
    | (at_builtin; refine wpList_copy HD.out hn rfl _ rfl rfl ?_)
    | go_in)
  intro a' c g w1 hB
  have HB := hide hB
  have hat := hB.at0
  have hlc := hB.lt
  have hcB := hB.cB
  clear hB
  by_cases hkn : k ≤ n
  · have HT := hide (take_fits a' g 0 n c w1.heap.size k (w1.alloc (rdr (.slice a' n c) .nilIface)) hat (heap_alloc_new _ _) hkn hlc hcB hk)
    simp only [rdr] at HT
    go_wp2_with fail
    refine HT.out.mono ?_
    rintro e w2 ⟨rfl, ar, har, hw2⟩
    obtain ⟨r0, r1, hcell, hbel⟩ : w2.cell? ⟨w1.heap.size, 0, none⟩ = some (.slice ar (n - k) (c - k)) ∧ w2.cell? ⟨w1.heap.size, 1, none⟩ = some .nilIface ∧ (∀ i, i < n → w2.cell? ⟨g, i, none⟩ = some (.int .u8 (f i))) ∧ Below w.heap.size w w2 := by
      rw [hw2]
      exact rdr_set0 HB.out _ _ _
    have HE1 := hide (fun q x y c1 c2 (h1 : 0 < k → x = some ⟨g, 0, none⟩) (h2 : 0 < k → y = some ⟨g, 0, none⟩) => eq_any x y g 0 k c1 c2 f (w2.drewN q) h1 h2 (fun i hi => by rw [Nat.zero_add]; exact hcell i (by omega)) (by omega))
    have HE2 := hide (fun q x y c1 c2 (h1 : 0 < n - k → x = some ⟨g, k, none⟩) (h2 : 0 < n - k → y = some ⟨g, k, none⟩) => eq_any x y g k (n - k) c1 c2 (fun i => f (k + i)) (w2.drewN q) h1 h2 (fun i hi => hcell (k + i) (by omega)) (by omega))
    have HA := hide (show At ar g k (n - k) (c - k) by simpa using har)
    have HBel := hide hbel
    clear hw2 HT hcell har hbel
    have hat' := HB.out.at_
    clear HB HD hat
    have hkz : (k : Int) ≤ (n : Int) := by omega
    rcases hat' with ⟨rfl, rfl, rfl⟩ | rfl
    · obtain rfl : k = 0 := by omega
      simp only [Nat.sub_self] at r0
      go_upto_region 8 with fail
      go_quiet ((go_at_call 13; exact Calls.quiet_of (HE1.out _ _ _ _ _ (fun h => absurd h (Nat.lt_irrefl _)) (fun h => absurd h (Nat.lt_irrefl _)))))
      go_wp2
      go_ret
      exact ⟨rfl, below_drewN HBel.out _⟩
    · by_cases hck : c = k
      · subst hck
        obtain rfl : n = c := by omega
        simp only [Nat.sub_self] at r0 HE2
        go_upto_region 8 with fail
        go_quiet (first
          | (go_at_call_of 13 (Value.slice (some ⟨g, 0, none⟩) n n); exact Calls.quiet_of (HE1.out _ _ _ _ _ (fun _ => rfl) (fun _ => rfl)))
          | (go_at_call_of 13 (Value.slice ar 0 0); exact Calls.quiet_of (HE2.out _ _ _ _ _ (fun h => absurd h (Nat.lt_irrefl _)) (fun h => absurd h (Nat.lt_irrefl _)))))
        go_wp2
        go_ret
        exact ⟨rfl, below_drewN HBel.out _⟩
      · go_upto_region 8 with fail
        go_quiet (first
          | (go_at_call_of 13 (Value.slice (some ⟨g, 0, none⟩) k k); exact Calls.quiet_of (HE1.out _ _ _ _ _ (fun _ => rfl) (fun _ => rfl)))
          | (go_at_call_of 13 (Value.slice ar (n - k) (c - k)); exact Calls.quiet_of (HE2.out _ _ _ _ _ (fun h => HA.out.some h) (fun _ => rfl))))
        go_wp2
        go_ret
        exact ⟨rfl, below_drewN HBel.out _⟩
  · have h1lt : 1 < w.heap.size := World.block_lt_of_cell? _ _ hG
    have hG1 : (w1.alloc (.cells #[.slice a' n c, .nilIface] 68)).cell? ⟨1, 0, none⟩ = some (.iface 83 (.pointer (some pa))) := by
      rw [World.cell?_of_block (w := w1) (Below.heap_alloc _ _ _ (show 1 < w1.heap.size from Nat.lt_of_lt_of_le h1lt HB.out.below.size)), HB.out.below.cell h1lt]
      exact hG
    have HT := hide (take_short a' n c w1.heap.size k 83 (some pa) (w1.alloc (rdr (.slice a' n c) .nilIface)) (heap_alloc_new _ _) hG1 (by omega) (by omega) hk)
    simp only [rdr] at HT
    go_wp2_with fail
    refine HT.out.mono ?_
    rintro e w2 ⟨rfl, hw2⟩
    obtain ⟨r0, r1, hcell, hbel⟩ : w2.cell? ⟨w1.heap.size, 0, none⟩ = some (.slice a' n c) ∧ w2.cell? ⟨w1.heap.size, 1, none⟩ = some (.iface 83 (.pointer (some pa))) ∧ (∀ i, i < n → w2.cell? ⟨g, i, none⟩ = some (.int .u8 (f i))) ∧ Below w.heap.size w w2 := by
      rw [hw2]
      exact rdr_set1 HB.out _ _ _
    have hG2 : w2.cell? ⟨1, 0, none⟩ = some (.iface 83 (.pointer (some pa))) := (hbel.cell h1lt).trans hG
    have HE1 := hide (fun q c1 c2 => eq_any a' a' g 0 n c1 c2 f (w2.drewN q) (fun h => hat.some h) (fun h => hat.some h) (fun i hi => by rw [Nat.zero_add]; exact hcell i (by omega)) (by omega))
    have HBel := hide hbel
    have hes := err_same pa
    have hns := nil_same
    have hkz : ¬ (k : Int) ≤ (n : Int) := by omega
    clear hw2 HT hcell hbel HB HD hat hG1
    go_upto_region 9 with fail
    go_quiet ((go_at_call 13; exact Calls.quiet_of (HE1.out _ _ _)))
    go_wp2
    go_ret
    exact ⟨rfl, below_drewN HBel.out _⟩

theorem once_big (a : Option Addr) (n cap : Nat) (k : Int) (w : World) (hn : 1024 < n) : Calls Ybad.prog 4 #[.slice a n cap, .int .u32 k] w fun e w' => e = .returned (.bool true) ∧ Below w.heap.size w w' := by
  have hz : (1024 : Int) < (n : Int) := by omega
  go_enter Ybad.func4, Ybad.ntmps4
  go_wp2
  go_ret
  exact ⟨rfl, Below.refl _ _⟩

end Go.Proofs.YbulkauyDoor
