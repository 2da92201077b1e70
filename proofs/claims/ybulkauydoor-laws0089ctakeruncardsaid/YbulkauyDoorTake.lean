import Derived.Test.YbulkauyDoorRows
import Derived.WalkKit
import Derived.WalkSpells
import Derived.Deep.OwnRows
import Derived.Deep.Draws
import Derived.Deep.LoopGhost
import Derived.Deep.RegionHeld3
import Derived.Deep.QuietTactic
import Derived.BigQuiet
import Derived.WalkSmall
namespace Go.Proofs.YbulkauyDoor
open Go.RowKit

theorem hide {p : Prop} (h : p) : Hid p := h

set_option maxHeartbeats 400000 in
theorem eq_any (a a' : Option Addr) (b o n c c' : Nat) (f : Nat → Int) (w : World) (ha : 0 < n → a = some ⟨b, o, none⟩) (ha' : 0 < n → a' = some ⟨b, o, none⟩) (hc : ∀ i, i < n → w.cell? ⟨b, o + i, none⟩ = some (.int .u8 (f i))) (hn : n < 9223372036854775808) :
    Calls Ybad.prog 13 #[.slice a n c, .slice a' n c'] w fun e w' => e = .returned (.bool true) ∧ ∃ m, w' = w.drewN m := by
  go_enter Ybad.func13, Ybad.ntmps13
  go_wp2
  go_loopg [5] n (fun g s5 wx => ∃ i m : Nat, i ≤ n ∧ g = n - i ∧ s5 = .int .i64 (i : Int) ∧ wx = w.drewN m)
  case atStart => exact ⟨0, 0, Nat.zero_le _, rfl, rfl, rfl⟩
  case round =>
    obtain ⟨i, m, hi, rfl, rfl, rfl⟩ := hrel
    by_cases hin : i < n
    · obtain rfl := ha (by omega)
      obtain rfl := ha' (by omega)
      have hx := hc i hin
      have hz : (i : Int) < (n : Int) := by omega
      go_wp2
      go_quiet (fail)
      go_wp2
      go_roundg (n - (i + 1))
      case measure => omega
      case rel => exact ⟨i + 1, _, by omega, rfl, by go_num, rfl⟩
    · go_wp2
      go_ret
      exact ⟨rfl, m, rfl⟩

def rdr (v e : Value) : Obj := .cells #[v, e] 68

/-- A slice of block g, from o on where it has a byte; or nil. -/
def At (a : Option Addr) (g o l c : Nat) : Prop := (a = none ∧ l = 0 ∧ c = 0) ∨ ∃ o', a = some ⟨g, o', none⟩ ∧ (0 < l → o' = o)

theorem At.some {a : Option Addr} {g o l c : Nat} (h : At a g o l c) (hl : 0 < l) : a = some ⟨g, o, none⟩ := by
  rcases h with ⟨_, h, _⟩ | ⟨o', rfl, h⟩
  · omega
  · rw [h hl]

set_option maxHeartbeats 400000 in
theorem take_fits (a : Option Addr) (g o l c r n : Nat) (w : World) (ha : At a g o l c) (h : w.heap[r]? = some (rdr (.slice a l c) .nilIface)) (hn : n ≤ l) (hl : l ≤ c) (hc : c < 9223372036854775808) (hn32 : n < 4294967296) :
    Calls Ybad.prog 12 #[.pointer (some ⟨r, 0, none⟩), .int .u32 (n : Int)] w fun e w' => e = .returned (.slice a n n) ∧ ∃ a', At a' g (o + n) (l - n) (c - n) ∧ w' = w.setCell ⟨r, 0, none⟩ (.slice a' (l - n) (c - n)) := by
  have c0 : w.cell? ⟨r, 0, none⟩ = some (.slice a l c) := by simp [World.cell?, h, rdr]
  have c1 : w.cell? ⟨r, 1, none⟩ = some .nilIface := by simp [World.cell?, h, rdr]
  have f0 : w.frozen? ⟨r, 0, none⟩ = false := by simp [World.frozen?, h, rdr]
  have hz : ¬ (l : Int) < (n : Int) := by omega
  clear h
  rcases ha with ⟨rfl, rfl, rfl⟩ | ⟨o', rfl, ho⟩
  · obtain rfl : n = 0 := by omega
    go_enter Ybad.func12, Ybad.ntmps12
    go_wp2
    go_ret
    exact ⟨rfl, none, .inl ⟨rfl, rfl, rfl⟩, rfl⟩
  · by_cases hcn : c = n
    · subst hcn
      obtain rfl : l = c := by omega
      go_enter Ybad.func12, Ybad.ntmps12
      go_wp2
      go_ret
      exact ⟨rfl, some ⟨g, o', none⟩, .inr ⟨o', rfl, fun h => by omega⟩, by simp⟩
    · go_enter Ybad.func12, Ybad.ntmps12
      go_wp2
      go_ret
      exact ⟨rfl, some ⟨g, o' + n, none⟩, .inr ⟨o' + n, rfl, fun h => by rw [ho (by omega)]⟩, rfl⟩

/-- It does not fit: nil, and the sentinel in the reader. -/
theorem take_short (a : Option Addr) (l c r n : Nat) (t : TypeId) (p : Option Addr) (w : World) (h : w.heap[r]? = some (rdr (.slice a l c) .nilIface)) (hg : w.cell? ⟨1, 0, none⟩ = some (.iface t (.pointer p))) (hn : l < n) (hc : l < 9223372036854775808) (hn32 : n < 4294967296) :
    Calls Ybad.prog 12 #[.pointer (some ⟨r, 0, none⟩), .int .u32 (n : Int)] w fun e w' => e = .returned (.slice none 0 0) ∧ w' = w.setCell ⟨r, 1, none⟩ (.iface t (.pointer p)) := by
  have c0 : w.cell? ⟨r, 0, none⟩ = some (.slice a l c) := by simp [World.cell?, h, rdr]
  have c1 : w.cell? ⟨r, 1, none⟩ = some .nilIface := by simp [World.cell?, h, rdr]
  have f1 : w.frozen? ⟨r, 1, none⟩ = false := by simp [World.frozen?, h, rdr]
  have hz : (l : Int) < (n : Int) := by omega
  clear h
  go_enter Ybad.func12, Ybad.ntmps12
  go_wp2
  go_ret
  exact ⟨rfl, rfl⟩

/-- It holds an error already: nil, and nothing turns. -/
theorem take_sticky (v : Value) (r : Nat) (n : Int) (t : TypeId) (p : Option Addr) (w : World) (h : w.heap[r]? = some (rdr v (.iface t (.pointer p)))) :
    Calls Ybad.prog 12 #[.pointer (some ⟨r, 0, none⟩), .int .u32 n] w fun e w' => e = .returned (.slice none 0 0) ∧ w' = w := by
  have c1 : w.cell? ⟨r, 1, none⟩ = some (.iface t (.pointer p)) := by simp [World.cell?, h, rdr]
  clear h
  go_enter Ybad.func12, Ybad.ntmps12
  go_wp2
  go_ret
  exact ⟨rfl, rfl⟩

end Go.Proofs.YbulkauyDoor
