/-
  bytes.Buffer: tryGrowByReslice, Len.
-/
import Derived.Test.Qxb6614495aDoorRows
import Derived.WalkKit
import Derived.WalkSpells
import Derived.BigQuiet
import Derived.Deep.QuietTactic
import Derived.Lib.Buffer
import Derived.Lib.BufferWrite
namespace Go.Proofs.Qxb6614495aDoor
open Go.RowKit

/-- tryGrowByReslice: there is room. -/
theorem tryGrow_room (b : Nat) (ao : Option Addr) (l cap n : Nat) (w : World) (c0 : w.cell? ⟨b, 0, none⟩ = some (.slice ao l cap)) (f0 : w.frozen? ⟨b, 0, none⟩ = false)
    (hlc : l ≤ cap) (hcap : cap ≤ maxLen) (hn : n ≤ cap - l) :
    Calls Tryd.prog 67 #[.pointer (some ⟨b, 0, none⟩), .int .i64 n] w fun e w' => e = .returned (.tuple #[.int .i64 l, .bool true]) ∧ w' = w.setCell ⟨b, 0, none⟩ (.slice ao (l + n) cap) := by
  unfold maxLen at hcap
  go_enter Tryd.func67, Tryd.ntmps67
  go_wp2
  go_ret2
  exact ⟨rfl, rfl⟩

/-- .. there is none. -/
theorem tryGrow_none (b : Nat) (ao : Option Addr) (l cap n : Nat) (w : World) (c0 : w.cell? ⟨b, 0, none⟩ = some (.slice ao l cap))
    (hlc : l ≤ cap) (hcap : cap ≤ maxLen) (hn : cap - l < n) :
    Calls Tryd.prog 67 #[.pointer (some ⟨b, 0, none⟩), .int .i64 n] w fun e w' => e = .returned (.tuple #[.int .i64 0, .bool false]) ∧ w' = w := by
  unfold maxLen at hcap
  go_enter Tryd.func67, Tryd.ntmps67
  go_wp2
  go_ret2
  exact ⟨rfl, rfl⟩

/-- (*bytes.Buffer).Len, of a buffer that has only been written. -/
theorem len_any (b : Nat) (ao : Option Addr) (l cap : Nat) (w : World) (c0 : w.cell? ⟨b, 0, none⟩ = some (.slice ao l cap)) (c1 : w.cell? ⟨b, 1, none⟩ = some (.int .i64 0)) (hlc : l ≤ maxLen) :
    Calls Tryd.prog 69 #[.pointer (some ⟨b, 0, none⟩)] w fun e w' => e = .returned (.int .i64 l) ∧ ∃ k, w' = w.drewN k := by
  unfold maxLen at hlc
  go_enter Tryd.func69, Tryd.ntmps69
  go_wp2
  go_quiet (fail)
  go_wp2
  go_ret
  exact ⟨rfl, _, rfl⟩
end Go.Proofs.Qxb6614495aDoor
