import Derived.Test.YbulkaqqFmtBase
import Derived.DeepKeys4
namespace Go.Proofs.YbulkaqqFmt
open Go.RowKit Go.Maps

theorem laidOut : laidOutB Ybaf.prog = true := by kernel_rfl
theorem zero3 (w : World) : (zeroValue 3).run Ybaf.prog w = .ok (.int .i64 0) w := by kernel_rfl

/-! ### names -/
/-- The five names: "a" to "e". -/
def nameS (k : Nat) : ByteArray := ⟨#[UInt8.ofNat (97 + k)]⟩
def nameLit (k : Nat) : Lit := .string [UInt8.ofNat (97 + k)]
def nameOk (k : Nat) : Prop := k < 5

theorem nameKeyed : Keyed Ybaf.prog 9 := string_keyed Ybaf.underlying9
theorem nameKey (k : Nat) : keyOf Ybaf.prog 9 (.string (nameS k)) = some (nameLit k) := WideMaps.keyOf_string_mk Ybaf.underlying9 (by show (1 : Nat) ≤ maxLen; decide)
theorem name_inj {a : Nat} (ha : nameOk a) : ∀ b, nameOk b → nameLit b = nameLit a → b = a := by
  intro b hb e
  unfold nameOk at ha hb
  simp only [nameLit, Lit.string.injEq, List.cons.injEq, and_true] at e
  have := congrArg UInt8.toNat e
  simp at this
  omega

/-! ### captures -/
def capV (c : Bool × Nat) : Value := .agg #[.bool c.1, .int .i64 (c.2 : Int)]
def capLit (c : Bool × Nat) : Lit := .string (keyBytes [.bool c.1, .int .i64 (c.2 : Int)])
def capOk (c : Bool × Nat) : Prop := c.2 < 9223372036854775808

theorem capKeyed : Keyed Ybaf.prog 53 := Keyed.of_law (deep_law_laid laidOut (m := 3) (by decide) (of_decide_eq_true (by kernel_rfl)) (by kernel_rfl) (by rw [Ybaf.underlying53]))

theorem capLits (d : Nat) (b : Bool) (n : Nat) (hn : n < 9223372036854775808) : Ybaf.prog.keyLits (d + 1 + 1) 53 [.bool b, .int .i64 (n : Int)] = some [.bool b, .int .i64 (n : Int)] := by
  have hw := wf_nat hn
  have c4 : Ybaf.prog.cellsOf 4 = 1 := by kernel_rfl
  have c3 : Ybaf.prog.cellsOf 3 = 1 := by kernel_rfl
  have c53 : Ybaf.prog.cellsOf 53 = 2 := by kernel_rfl
  simp [Program.keyLits, Ybaf.underlying53, Ybaf.underlying4, Ybaf.underlying3, c53, c4, c3, hw]

theorem capKey (c : Bool × Nat) (h : capOk c) : keyOf Ybaf.prog 53 (capV c) = some (capLit c) := by
  have hsz : Ybaf.prog.types.size + 1 = 87 + 1 + 1 := by kernel_rfl
  have hk : Ybaf.prog.keyType 53 = true := by kernel_rfl
  have c53 : Ybaf.prog.cellsOf 53 = 2 := by kernel_rfl
  have hf : (capV c).formed Ybaf.prog 53 = true := by
    simp [capV, Value.formed, Ybaf.underlying53, c53]
  unfold keyOf
  rw [Ybaf.underlying53]
  simp only [hk, hf, Bool.and_self, if_true, hsz]
  have := capLits 87 c.1 c.2 h
  simp only [capV, capLit, Value.cells]
  rw [this]
  rfl

theorem cap_inj {a : Bool × Nat} (ha : capOk a) : ∀ b, capOk b → capLit b = capLit a → b = a := by
  intro b hb e
  have h1 := capKey b hb
  rw [e] at h1
  have h2 := capKeyed.inj h1 (capKey a ha)
  simp only [capV, Value.agg.injEq] at h2
  simp at h2
  obtain ⟨e1, e2⟩ := h2
  exact Prod.ext e1 (by omega)

end Go.Proofs.YbulkaqqFmt
