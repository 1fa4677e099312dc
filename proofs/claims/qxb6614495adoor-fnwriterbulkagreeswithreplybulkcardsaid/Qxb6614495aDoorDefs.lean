/-
  The sink: a bytes.Buffer in block b under a bufio.Writer in block s with its row in block R; which blocks a step of theirs may turn.
-/
import Derived.Test.Qxb6614495aDoorRows
import Derived.WalkKit
import Derived.WalkSpells
import Derived.Below
import Derived.Laws.Tables
import Derived.Deep.Draws
import Derived.Lib.Buffer
import Derived.Lib.BufferWrite
namespace Go.Proofs.Qxb6614495aDoor
open Go.RowKit

/-- A buffer in block b that has only been written; v: its slice. -/
structure BufAt (b : Nat) (bs : List Value) (v : Value) (w : World) : Prop where
  blk : ∃ lr, w.heap[b]? = some (.cells #[v, .int .i64 0, .int .i8 lr] 43 (0, 0))
  row : (v = .slice none 0 0 ∧ bs = []) ∨ ∃ g cap cur, v = .slice (some ⟨g, 0, none⟩) bs.length cap ∧ g ≠ b ∧ w.heap[g]? = some (.cells cur 5 (0, 0)) ∧ bs.length ≤ cap ∧ cap ≤ maxLen ∧ cur.size = cap ∧ cur.toList.take bs.length = bs ∧ 1 ≤ bs.length

/-- THE FRAME of a step of the buffer's: of what lay, b and the row of v alone may have turned; v' lies in that row or in a new one. -/
structure Shift (b : Nat) (v v' : Value) (w w' : World) : Prop where
  os : w'.os = w.os
  tape : w'.tape = w.tape
  output : w'.output = w.output
  size : w.heap.size ≤ w'.heap.size
  block : ∀ k, k < w.heap.size → k ≠ b → v.ownBlock ≠ some k → w'.heap[k]? = w.heap[k]?
  new : ∀ k, v'.ownBlock = some k → v.ownBlock = some k ∨ w.heap.size ≤ k

/-- The sink: 'bs' has reached the buffer, 'pend' waits in the writer's row. -/
structure Sink (b R s : Nat) (bs pend : List Value) (v : Value) (w : World) : Prop where
  buf : BufAt b bs v w
  one : ∀ u ∈ bs, u.oneCell' = true
  str : w.heap[s]? = some (.cells #[.nilIface, .slice (some ⟨R, 0, none⟩) 16384 16384, .int .i64 (pend.length : Nat), .iface 39 (.pointer (some ⟨b, 0, none⟩))] 68 (0, 0))
  row : ∃ cur, w.heap[R]? = some (.cells cur 5 (0, 0)) ∧ cur.size = 16384 ∧ cur.toList.take pend.length = pend
  fit : pend.length ≤ 16384
  onep : ∀ u ∈ pend, u.oneCell' = true
  nv : v.ownBlock ≠ some R

/-- A block that no step of the sink's turns. -/
def Cold (b R s : Nat) (v : Value) (k : Nat) : Prop := k ≠ b ∧ k ≠ R ∧ k ≠ s ∧ v.ownBlock ≠ some k

/-- THE FRAME of a step of the sink's. -/
structure Moves (b R s : Nat) (v v' : Value) (w w' : World) : Prop where
  os : w'.os = w.os
  tape : w'.tape = w.tape
  output : w'.output = w.output
  size : w.heap.size ≤ w'.heap.size
  block : ∀ k, k < w.heap.size → Cold b R s v k → w'.heap[k]? = w.heap[k]?
  new : ∀ k, v'.ownBlock = some k → v.ownBlock = some k ∨ w.heap.size ≤ k

theorem Moves.refl (b R s : Nat) (v : Value) (w : World) : Moves b R s v v w w := ⟨rfl, rfl, rfl, Nat.le_refl _, fun _ _ _ => rfl, fun _ h => .inl h⟩
theorem Moves.cold {b R s : Nat} {v v' : Value} {w w' : World} (h : Moves b R s v v' w w') {k : Nat} (hk : k < w.heap.size) (hc : Cold b R s v k) : Cold b R s v' k :=
  ⟨hc.1, hc.2.1, hc.2.2.1, fun e => by rcases h.new k e with h1 | h1; exact hc.2.2.2 h1; omega⟩
theorem Moves.trans {b R s : Nat} {v v' v'' : Value} {w w' w'' : World} (h : Moves b R s v v' w w') (h' : Moves b R s v' v'' w' w'') : Moves b R s v v'' w w'' :=
  ⟨h'.os.trans h.os, h'.tape.trans h.tape, h'.output.trans h.output, Nat.le_trans h.size h'.size,
   fun k hk hc => (h'.block k (Nat.lt_of_lt_of_le hk h.size) (h.cold hk hc)).trans (h.block k hk hc),
   fun k e => by rcases h'.new k e with h1 | h1; exact h.new k h1; exact .inr (Nat.le_trans h.size h1)⟩
theorem Moves.drewN {b R s : Nat} {v v' : Value} {w w' : World} (h : Moves b R s v v' w w') (n : Nat) : Moves b R s v v' w (w'.drewN n) := ⟨h.os, h.tape, h.output, h.size, h.block, h.new⟩
theorem Moves.of_shift {b R s : Nat} {v v' : Value} {w w' : World} (h : Shift b v v' w w') : Moves b R s v v' w w' := ⟨h.os, h.tape, h.output, h.size, fun k hk hc => h.block k hk hc.1 hc.2.2.2, h.new⟩
/-- A store into one of the two blocks of the writer's. -/
theorem Moves.setCell {b R s : Nat} {v v' : Value} {w w' : World} (h : Moves b R s v v' w w') (p : Addr) (hp : p.block = s ∨ p.block = R) (u : Value) : Moves b R s v v' w (w'.setCell p u) :=
  ⟨h.os, h.tape, h.output, by simpa using h.size, fun k hk hc => (Below.heap_setCell _ _ _ _ (fun e => by rcases hp with hp | hp; exact hc.2.2.1 (by omega); exact hc.2.1 (by omega))).trans (h.block k hk hc), h.new⟩

theorem Sink.drewN {b R s : Nat} {bs pend : List Value} {v : Value} {w : World} (h : Sink b R s bs pend v w) (n : Nat) : Sink b R s bs pend v (w.drewN n) := ⟨⟨h.buf.blk, h.buf.row⟩, h.one, h.str, h.row, h.fit, h.onep, h.nv⟩
theorem Sink.c0 {b R s : Nat} {bs pend : List Value} {v : Value} {w : World} (h : Sink b R s bs pend v w) : w.cell? ⟨s, 0, none⟩ = some .nilIface := by rw [Lib.cell_of_heap h.str]; rfl
theorem Sink.c1 {b R s : Nat} {bs pend : List Value} {v : Value} {w : World} (h : Sink b R s bs pend v w) : w.cell? ⟨s, 1, none⟩ = some (.slice (some ⟨R, 0, none⟩) 16384 16384) := by rw [Lib.cell_of_heap h.str]; rfl
theorem Sink.c2 {b R s : Nat} {bs pend : List Value} {v : Value} {w : World} (h : Sink b R s bs pend v w) : w.cell? ⟨s, 2, none⟩ = some (.int .i64 (pend.length : Nat)) := by rw [Lib.cell_of_heap h.str]; rfl
theorem Sink.c3 {b R s : Nat} {bs pend : List Value} {v : Value} {w : World} (h : Sink b R s bs pend v w) : w.cell? ⟨s, 3, none⟩ = some (.iface 39 (.pointer (some ⟨b, 0, none⟩))) := by rw [Lib.cell_of_heap h.str]; rfl
theorem Sink.f {b R s : Nat} {bs pend : List Value} {v : Value} {w : World} (h : Sink b R s bs pend v w) (i : Nat) : w.frozen? ⟨s, i, none⟩ = false := Lib.frozen_of_heap h.str i

/-- Two blocks of two types are two blocks. -/
theorem ne_of_types {w : World} {k k' : Nat} {c c' : Array Value} {t t' : TypeId} {f f' : Nat × Nat} (h : w.heap[k]? = some (.cells c t f)) (h' : w.heap[k']? = some (.cells c' t' f')) (ht : t ≠ t') : k ≠ k' := by
  intro e; rw [e, h'] at h
  have := congrArg (fun o => match o with | some (Obj.cells _ t _) => t | _ => 0) h
  exact ht this.symm
theorem Sink.ne_sb {b R s : Nat} {bs pend : List Value} {v : Value} {w : World} (h : Sink b R s bs pend v w) : s ≠ b := by
  obtain ⟨lr, hb⟩ := h.buf.blk; exact ne_of_types h.str hb (by decide)
theorem Sink.ne_sR {b R s : Nat} {bs pend : List Value} {v : Value} {w : World} (h : Sink b R s bs pend v w) : s ≠ R := by
  obtain ⟨cur, hb, _⟩ := h.row; exact ne_of_types h.str hb (by decide)
theorem Sink.ne_bR {b R s : Nat} {bs pend : List Value} {v : Value} {w : World} (h : Sink b R s bs pend v w) : b ≠ R := by
  obtain ⟨lr, hb'⟩ := h.buf.blk; obtain ⟨cur, hb, _⟩ := h.row; exact ne_of_types hb' hb (by decide)
theorem Sink.ns {b R s : Nat} {bs pend : List Value} {v : Value} {w : World} (h : Sink b R s bs pend v w) : v.ownBlock ≠ some s := by
  rcases h.buf.row with ⟨rfl, _⟩ | ⟨g, cap, cur, rfl, _, hg, _⟩
  · simp [Value.ownBlock]
  · simp only [Value.ownBlock, ne_eq, Option.some.injEq]; exact (ne_of_types h.str hg (by decide)).symm
theorem Sink.nb {b R s : Nat} {bs pend : List Value} {v : Value} {w : World} (h : Sink b R s bs pend v w) : v.ownBlock ≠ some b := by
  rcases h.buf.row with ⟨rfl, _⟩ | ⟨g, cap, cur, rfl, hgb, _⟩
  · simp [Value.ownBlock]
  · simp only [Value.ownBlock, ne_eq, Option.some.injEq]; exact hgb
end Go.Proofs.Qxb6614495aDoor
