import Derived.Test.YbulkaqqFmtAdd
import Derived.Deep.DeepCutAuto
namespace Go.Proofs.YbulkaqqFmt
open Go.RowKit Go.Maps

/-- The scopes that came in. -/
structure In where
  a0 : Option Addr
  N : Nat
  cap : Nat
  b : Nat
  o : Nat
  A : Nat → Option Addr
  L : Nat → Nat
  C : Nat → Nat
  ab : Nat → Nat
  ao : Nat → Nat
  B : Nat → Nat → Option Addr
  M : Nat → Nat → Nat
  D : Nat → Nat → Nat
  bb : Nat → Nat → Nat
  bo : Nat → Nat → Nat
  x : Nat → Nat → Nat → Nat

structure In.Ok (I : In) (w : World) : Prop where
  a0 : 0 < I.N → I.a0 = some ⟨I.b, I.o, none⟩
  blt : 0 < I.N → I.b < w.heap.size
  row : ∀ i, i < I.N → w.cell? ⟨I.b, I.o + i, none⟩ = some (.slice (I.A i) (I.L i) (I.C i))
  A : ∀ i, i < I.N → 0 < I.L i → I.A i = some ⟨I.ab i, I.ao i, none⟩
  alt : ∀ i, i < I.N → 0 < I.L i → I.ab i < w.heap.size
  arow : ∀ i, i < I.N → ∀ j, j < I.L i → w.cell? ⟨I.ab i, I.ao i + j, none⟩ = some (.slice (I.B i j) (I.M i j) (I.D i j))
  B : ∀ i, i < I.N → ∀ j, j < I.L i → 0 < I.M i j → I.B i j = some ⟨I.bb i j, I.bo i j, none⟩
  blt2 : ∀ i, i < I.N → ∀ j, j < I.L i → 0 < I.M i j → I.bb i j < w.heap.size
  brow : ∀ i, i < I.N → ∀ j, j < I.L i → ∀ l, l < I.M i j → w.cell? ⟨I.bb i j, I.bo i j + l, none⟩ = some (.int .u8 (I.x i j l : Int))
  x : ∀ i j l, I.x i j l < 256
  Lb : ∀ i, i < I.N → I.L i * 24 ≤ 140737488355328
  Mb : ∀ i, i < I.N → ∀ j, j < I.L i → I.M i j < 9223372036854775808

set_option maxHeartbeats 800000 in
theorem size_any {I : In} {w : World} (hI : I.Ok w) (hN : I.N ≤ 64) :
    Calls Ybaf.prog 5 #[.slice I.a0 I.N I.cap] w fun e w' => (∃ z : Int, e = .returned (.int .i64 z)) ∧ Below w.heap.size w w' := by
  have HI := hide hI
  have h0 := hI.a0
  obtain ⟨a0, hea0⟩ : ∃ a, I.a0 = a := ⟨_, rfl⟩
  rw [hea0] at h0
  rw [hea0]
  clear hI hea0
  go_enter Ybaf.func5, Ybaf.ntmps5
  go_wp2
  go_loopg [3, 10] I.N (fun g s3 s10 wx => ∃ (i : Nat) (z : Int), i ≤ I.N ∧ g = I.N - i ∧ s3 = .int .i64 z ∧ s10 = .int .i64 (i : Int) ∧ Below w.heap.size w wx)
  case atStart => exact ⟨0, 0, Nat.zero_le _, rfl, rfl, rfl, Below.refl _ _⟩
  case round =>
    obtain ⟨i, z, hi, rfl, rfl, rfl, hb⟩ := hrel
    by_cases hiN : i < I.N
    · obtain rfl := h0 (by omega)
      have hbl := HI.out.blt (by omega)
      have hz0 := hb.size
      have r1 : wr.cell? ⟨I.b, I.o + i, none⟩ = some (.slice (I.A i) (I.L i) (I.C i)) := (hb.cell hbl).trans (HI.out.row i hiN)
      have hz : (i : Int) < (I.N : Int) := by omega
      have hL := HI.out.Lb i hiN
      have hA := HI.out.A i hiN
      have hAl := HI.out.alt i hiN
      have HR := hide (HI.out.arow i hiN)
      have hb1 : Below w.heap.size w (wr.alloc (.cells #[.slice (I.A i) (I.L i) (I.C i)] 58)) := hb.alloc hz0 _
      obtain ⟨l, hl⟩ : ∃ l, I.L i = l := ⟨_, rfl⟩
      obtain ⟨c, hc⟩ : ∃ c, I.C i = c := ⟨_, rfl⟩
      obtain ⟨a, hea⟩ : ∃ a, I.A i = a := ⟨_, rfl⟩
      rw [hl, hc, hea] at r1 hb1
      rw [hl] at hL hA hAl HR
      rw [hea] at hA
      clear hl hc hea
      go_wp2
      go_loopg [3, 22] l (fun g s3 s22 wx => ∃ (j : Nat) (z : Int), j ≤ l ∧ g = l - j ∧ s3 = .int .i64 z ∧ s22 = .int .i64 (j : Int) ∧ Below w.heap.size w wx)
      case atStart => exact ⟨0, _, Nat.zero_le _, rfl, rfl, rfl, hb1⟩
      case round =>
        obtain ⟨j, z, hj, rfl, rfl, rfl, hb⟩ := hrel
        by_cases hjl : j < l
        · obtain rfl := hA (by omega)
          have hal := hAl (by omega)
          have q1 : wr.cell? ⟨I.ab i, I.ao i + j, none⟩ = some (.slice (I.B i j) (I.M i j) (I.D i j)) := (hb.cell hal).trans (HR.out j hjl)
          have hz : (j : Int) < (l : Int) := by omega
          go_wp2
          go_roundg (l - (j + 1))
          case measure => omega
          case rel => exact ⟨j + 1, _, by omega, rfl, rfl, by go_num, hb⟩
        · go_wp2
          go_roundg (I.N - (i + 1))
          case measure => omega
          case rel => exact ⟨i + 1, _, by omega, rfl, rfl, by go_num, hb⟩
    · go_wp2
      go_ret
      exact ⟨⟨_, rfl⟩, hb⟩

end Go.Proofs.YbulkaqqFmt
