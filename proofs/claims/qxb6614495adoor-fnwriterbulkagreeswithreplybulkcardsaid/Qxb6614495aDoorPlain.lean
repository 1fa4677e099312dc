/-
  What a Reply's pieces are, plainly; what a round of Reply's loop keeps.
-/
import Derived.Test.Qxb6614495aDoorBufio
import Derived.RangeFuncNested
namespace Go.Proofs.Qxb6614495aDoor
open Go.RowKit

/-- The text from 'fr' on, with the references between. -/
def parts (T : List Value) : Nat → List (Nat × List Value) → List Value
  | fr, [] => T.drop fr
  | fr, (p, cs) :: G => (T.drop fr).take (p - fr) ++ cs ++ parts T p G

/-- The places rise, and lie in the text. -/
def rising (n : Nat) : Nat → List Nat → Prop
  | fr, [] => fr ≤ n
  | fr, p :: ps => fr ≤ p ∧ rising n p ps

theorem rising_le {n : Nat} : ∀ {fr : Nat} {ps : List Nat}, rising n fr ps → fr ≤ n
  | _, [], h => h
  | _, _ :: _, h => Nat.le_trans h.1 (rising_le h.2)
theorem rising_mono {n n' : Nat} (hn : n ≤ n') : ∀ {fr : Nat} {ps : List Nat}, rising n fr ps → rising n' fr ps
  | _, [], h => Nat.le_trans h hn
  | _, _ :: _, h => ⟨h.1, rising_mono hn h.2⟩
theorem rising_snoc {n : Nat} : ∀ {fr : Nat} {ps : List Nat}, rising n fr ps → rising n fr (ps ++ [n])
  | _, [], h => ⟨h, Nat.le_refl _⟩
  | _, _ :: _, h => ⟨h.1, rising_snoc h.2⟩

theorem parts_text (T cs : List Value) : ∀ (fr : Nat) (G : List (Nat × List Value)), rising T.length fr (G.map (·.1)) → parts (T ++ cs) fr G = parts T fr G ++ cs
  | fr, [], h => by
    simp only [parts]
    rw [List.drop_append_of_le_length h]
  | fr, (p, us) :: G, h => by
    simp only [parts]
    have hp : p ≤ T.length := rising_le h.2
    rw [parts_text T cs p G h.2, List.drop_append_of_le_length (Nat.le_trans h.1 hp), List.take_append_of_le_length (by rw [List.length_drop]; have := h.1; simp only at this; omega), List.append_assoc, List.append_assoc, List.append_assoc]
theorem parts_ref (T cs : List Value) : ∀ (fr : Nat) (G : List (Nat × List Value)), rising T.length fr (G.map (·.1)) → parts T fr (G ++ [(T.length, cs)]) = parts T fr G ++ cs
  | fr, [], h => by
    simp only [parts, List.nil_append]
    rw [List.take_of_length_le (by rw [List.length_drop]; exact Nat.le_refl _), List.drop_length, List.append_nil]
  | fr, (p, us) :: G, h => by
    simp only [parts, List.cons_append]
    rw [parts_ref T cs p G h.2, List.append_assoc, List.append_assoc, List.append_assoc]

/-! ### What a round keeps -/
/-- Block k is the buffer's own row. -/
def ownAt (b : Nat) (W : World) (k : Nat) : Prop := ∃ u, W.cell? ⟨b, 0, none⟩ = some u ∧ u.ownBlock = some k
/-- Block k is none of the sink's. -/
def Still (b R s : Nat) (W : World) (k : Nat) : Prop := k ≠ b ∧ k ≠ R ∧ k ≠ s ∧ ¬ ownAt b W k
/-- The buffer's own row is there. -/
def Okay (b : Nat) (W : World) : Prop := ∀ k, ownAt b W k → k < W.heap.size
structure Kp (b R s : Nat) (W W' : World) : Prop where
  size : W.heap.size ≤ W'.heap.size
  cells : ∀ k c t fr, W.heap[k]? = some (.cells c t fr) → Still b R s W k → W'.heap[k]? = some (.cells c t fr)
  still : ∀ k, k < W.heap.size → Still b R s W k → Still b R s W' k
  okay : Okay b W → Okay b W'

theorem Kp.trans {b R s : Nat} {A B C : World} (h : Kp b R s A B) (k : Kp b R s B C) : Kp b R s A C :=
  ⟨Nat.le_trans h.size k.size, fun i c t fr hi hs => k.cells i c t fr (h.cells i c t fr hi hs) (h.still i (Array.getElem?_eq_some_iff.1 hi).1 hs),
   fun i hi hs => k.still i (Nat.lt_of_lt_of_le hi h.size) (h.still i hi hs), fun ho => k.okay (h.okay ho)⟩
theorem ownAt_putObj {b : Nat} {W : World} {l : Nat} {o' : Obj} (hbl : b ≠ l) (k : Nat) : ownAt b (W.putObj l o') k ↔ ownAt b W k := by
  unfold ownAt
  rw [World.cell?_of_block (w' := W.putObj l o') (w := W) (a := ⟨b, 0, none⟩) (World.putObj_heap_other hbl)]
theorem Kp.putObj {b R s n : Nat} (hb : b < n) (W : World) (l : Nat) (o o' : Obj) (hl : n ≤ l) (h : W.heap[l]? = some o) (hc : o.isCells = false) (_ : o.isWalk = false) : Kp b R s W (W.putObj l o') := by
  have hbl : b ≠ l := by omega
  refine ⟨by simp, fun k c t fr hk _ => ?_, fun k _ hs => ⟨hs.1, hs.2.1, hs.2.2.1, fun e => hs.2.2.2 ((ownAt_putObj hbl k).1 e)⟩, fun ho k hk => by simpa using ho k ((ownAt_putObj hbl k).1 hk)⟩
  rw [World.putObj_heap_other]
  · exact hk
  · intro e; rw [e, h] at hk
    injection hk with hk; rw [hk] at hc; exact absurd hc (by simp [Obj.isCells])

theorem ownAt_iff {b R s : Nat} {bs pend : List Value} {v : Value} {W : World} (h : Sink b R s bs pend v W) (k : Nat) : ownAt b W k ↔ v.ownBlock = some k := by
  obtain ⟨lr, hb⟩ := h.buf.blk
  have hc : W.cell? ⟨b, 0, none⟩ = some v := by rw [Lib.cell_of_heap hb]; rfl
  unfold ownAt
  rw [hc]
  exact ⟨fun ⟨u, e, hu⟩ => by cases e; exact hu, fun hv => ⟨v, rfl, hv⟩⟩
theorem Sink.still_iff {b R s : Nat} {bs pend : List Value} {v : Value} {W : World} (h : Sink b R s bs pend v W) (k : Nat) : Still b R s W k ↔ Cold b R s v k := by
  unfold Still Cold; rw [ownAt_iff h]
theorem Sink.okay {b R s : Nat} {bs pend : List Value} {v : Value} {W : World} (h : Sink b R s bs pend v W) : Okay b W := by
  intro k hk
  rw [ownAt_iff h] at hk
  rcases h.buf.row with ⟨rfl, _⟩ | ⟨g, cap, cur, rfl, _, hg, _⟩
  · simp [Value.ownBlock] at hk
  · simp [Value.ownBlock] at hk; subst hk; exact (Array.getElem?_eq_some_iff.1 hg).1
/-- A step of the sink's keeps what a round must keep. -/
theorem Kp.of_moves {b R s : Nat} {bs pend bs' pend' : List Value} {v v' : Value} {W W' : World} (h : Sink b R s bs pend v W) (h' : Sink b R s bs' pend' v' W') (hm : Moves b R s v v' W W') : Kp b R s W W' :=
  ⟨hm.size, fun k _ _ _ hk hs => (hm.block k (Array.getElem?_eq_some_iff.1 hk).1 ((h.still_iff k).1 hs)).trans hk,
   fun k hk hs => (h'.still_iff k).2 (hm.cold hk ((h.still_iff k).1 hs)), fun _ => h'.okay⟩
/-- Whatever is no cells lies as it lay. -/
theorem keepsOthers {b R s : Nat} {bs pend bs' pend' : List Value} {v v' : Value} {W W' : World} (h : Sink b R s bs pend v W) (_ : Sink b R s bs' pend' v' W') (hm : Moves b R s v v' W W') : KeepsOthers W W' := by
  refine ⟨hm.size, fun k o hk ho => (hm.block k (Array.getElem?_eq_some_iff.1 hk).1 ?_).trans hk⟩
  have hne : ∀ (k' : Nat) c t fr, W.heap[k']? = some (Obj.cells c t fr) → k ≠ k' := by
    intro k' c t fr h1 e; rw [← e, hk] at h1; injection h1 with h1; rw [h1] at ho; exact absurd ho (by simp [Obj.isCells])
  obtain ⟨lr, hb⟩ := h.buf.blk
  obtain ⟨cur, hR, _⟩ := h.row
  refine ⟨hne b _ _ _ hb, hne R _ _ _ hR, hne s _ _ _ h.str, ?_⟩
  rcases h.buf.row with ⟨rfl, _⟩ | ⟨g, cap, cg, rfl, _, hg, _⟩
  · simp [Value.ownBlock]
  · simp only [Value.ownBlock, ne_eq, Option.some.injEq]; exact (hne g _ _ _ hg).symm
/-- The sink abides the turn of a block that is no cells. -/
theorem Sink.turn {b R s : Nat} {bs pend : List Value} {v : Value} {W W' : World} {row : Option Nat} (h : Sink b R s bs pend v W) (hg : W.grownBy W' row) (hr : ∀ r, row = some r → ∃ o : Obj, W.heap[r]? = some o ∧ o.isCells = false) : Sink b R s bs pend v W' := by
  have keep : ∀ (k : Nat) c t fr, W.heap[k]? = some (Obj.cells c t fr) → W'.heap[k]? = some (Obj.cells c t fr) := by
    intro k c t fr hk
    refine (hg.block k (Array.getElem?_eq_some_iff.1 hk).1 ?_).trans hk
    intro e
    obtain ⟨o, ho, hc⟩ := hr k e.symm
    rw [hk] at ho; injection ho with ho; rw [← ho] at hc; exact absurd hc (by simp [Obj.isCells])
  obtain ⟨⟨⟨lr, hb⟩, hrow⟩, h1, h2, ⟨cur, hR, h3⟩, h4, h5, h6⟩ := h
  refine ⟨⟨⟨lr, keep _ _ _ _ hb⟩, ?_⟩, h1, keep _ _ _ _ h2, ⟨cur, keep _ _ _ _ hR, h3⟩, h4, h5, h6⟩
  rcases hrow with h | ⟨g, cap, cg, q1, q2, q3, q4⟩
  · exact .inl h
  · exact .inr ⟨g, cap, cg, q1, q2, keep _ _ _ _ q3, q4⟩
theorem Moves.turn {b R s : Nat} {v v' : Value} {w W W' : World} {row : Option Nat} (h : Moves b R s v v' w W) (hg : W.grownBy W' row) (hr : ∀ r, row = some r → w.heap.size ≤ r) : Moves b R s v v' w W' :=
  ⟨hg.os.trans h.os, hg.tape.trans h.tape, hg.output.trans h.output, Nat.le_trans h.size hg.size, fun k hk hc => (hg.block k (Nat.lt_of_lt_of_le hk h.size) (fun e => by have := hr k e.symm; omega)).trans (h.block k hk hc), h.new⟩
end Go.Proofs.Qxb6614495aDoor
