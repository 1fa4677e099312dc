/-
  (*Writer).Reply: the loop over the pieces, by the iterator's contract.
-/
import Derived.Test.Qxb6614495aDoorPlain
import Derived.RangeFuncNested
import Derived.RangeFuncBound
import Derived.RangeFuncCalls
import Derived.RangeFuncLeaves
import Derived.Shelf.Abstract
import Derived.Shelf.RegionOpen
import Derived.WalkKit
import Derived.OwnWalkIn
import Derived.TacticsInMore
import Derived.LoopNIn
import Derived.LoopIn
import Derived.Maps.AppendAt
namespace Go.Proofs.Qxb6614495aDoor
open Go.RowKit Go.Shelf
attribute [local go_sem] Oper.semAt_some

/-- (block, offset, length, capacity, cells) of a piece that lies, in w0, below block b. -/
def Readable (w0 : World) (b : Nat) (x : Nat × Nat × Nat × Nat × List Value) : Prop :=
  x.2.2.2.2.length = x.2.2.1 ∧ x.2.2.1 ≤ x.2.2.2.1 ∧ x.2.2.2.1 ≤ maxLen ∧ x.2.2.1 ≤ 2097152 ∧ x.1 < b ∧ (∀ j u, x.2.2.2.2[j]? = some u → w0.cell? ⟨x.1, x.2.1 + j, none⟩ = some u) ∧ ∀ u ∈ x.2.2.2.2, u.oneCell' = true
def Piece (w0 : World) (b : Nat) : Type := { x : Nat × Nat × Nat × Nat × List Value // Readable w0 b x }
def Piece.enc {w0 : World} {b : Nat} (x : Piece w0 b) : Value := .slice (some ⟨x.1.1, x.1.2.1, none⟩) x.1.2.2.1 x.1.2.2.2.1
def Piece.bytes {w0 : World} {b : Nat} (x : Piece w0 b) : List Value := x.1.2.2.2.2
def bytesOf {w0 : World} {b : Nat} (xs : List (Piece w0 b)) : List Value := xs.flatMap Piece.bytes
theorem bytesOf_snoc {w0 : World} {b : Nat} (xs : List (Piece w0 b)) (x : Piece w0 b) : bytesOf (xs ++ [x]) = bytesOf xs ++ x.bytes := by simp [bytesOf]
theorem Piece.len {w0 : World} {b : Nat} (x : Piece w0 b) : x.bytes.length ≤ 2097152 := by
  have := x.2.1; have := x.2.2.2.2.1; unfold Piece.bytes; omega
theorem bytesOf_le {w0 : World} {b : Nat} (xs : List (Piece w0 b)) : (bytesOf xs).length ≤ xs.length * 2097152 := by
  induction xs with
  | nil => simp [bytesOf]
  | cons x xs ih =>
    have : bytesOf (x :: xs) = x.bytes ++ bytesOf xs := rfl
    have := x.len
    rw [‹bytesOf (x :: xs) = _›, List.length_append, List.length_cons]; omega

/-- Pieces: the closure. -/
theorem pieces_any (r : Nat) (w : World) :
    Calls Tryd.prog 24 #[.pointer (some ⟨r, 0, none⟩)] w fun e w' => e = .returned (.func (.func 29) #[] #[.pointer (some ⟨w.heap.size, 0, none⟩)]) ∧ w' = w.alloc (.cells #[.pointer (some ⟨r, 0, none⟩)] 36) := by
  go_enter Tryd.func24, Tryd.ntmps24
  go_wp2
  go_ret
  exact ⟨rfl, rfl⟩

set_option maxHeartbeats 2000000 in
set_option maxRecDepth 100000 in
/-- Reply, over whatever iterator's contract. -/
theorem reply_in (b R s x r : Nat) (w : World) (tot : List Value) (N : Nat)
    (hseq : ∀ w1 : World, w1 = (w.alloc (.cells #[.pointer (some ⟨x, 0, none⟩)] 28)).alloc (.cells #[.pointer (some ⟨r, 0, none⟩)] 36) →
      SeqStopsK Fence.wide 2 Tryd.prog 29 #[.pointer (some ⟨w.heap.size + 1, 0, none⟩)] (fun y : Piece w b => #[y.enc]) (Kp b R s) (fun ys => bytesOf ys = tot) (fun _ => True) N w1)
    (hN : N ≤ 4194304) (v : Value) (hsink : Sink b R s [] [] v w) (hv : v = .slice none 0 0) (hbR : b < R) (hbs : b < s) (hx : w.heap[x]? = some (.cells #[.pointer (some ⟨s, 0, none⟩)] 52)) :
    CallsIn Fence.wide 3 Tryd.prog 12 #[.pointer (some ⟨x, 0, none⟩), .pointer (some ⟨r, 0, none⟩)] w fun e w' => e = .returned (.tuple #[]) ∧ Done b R s tot v w w' := by
  refine callsIn_of_wp_marks Tryd.func12 rfl trivial ?_ rfl
  simp only [Tryd.ntmps12, List.size_toArray, List.length_cons, List.length_nil, Nat.reduceAdd, Nat.reduceSub, Array.replicate_succ, Array.replicate_zero, List.push_toArray, List.append_toArray, List.nil_append, List.cons_append]
  gi_wp2_with (refine ⟨trivial, ?_⟩; gi_at_call 24; refine (callsIn_wide.2 (pieces_any r _)).mono ?_; rintro e w' ⟨rfl, rfl⟩)
  subst hv
  have hxl : x < w.heap.size := (Array.getElem?_eq_some_iff.1 hx).1
  have hRl : R < w.heap.size := by obtain ⟨cur, hR, _⟩ := hsink.row; exact (Array.getElem?_eq_some_iff.1 hR).1
  have hsl : s < w.heap.size := (Array.getElem?_eq_some_iff.1 hsink.str).1
  have hcx : Cold b R s (.slice none 0 0) x := by
    obtain ⟨lr, hb⟩ := hsink.buf.blk
    obtain ⟨cur, hR, _⟩ := hsink.row
    exact ⟨ne_of_types hx hb (by decide), ne_of_types hx hR (by decide), ne_of_types hx hsink.str (by decide), by simp [Value.ownBlock]⟩
  have hseq' := hseq _ rfl
  clear hseq
  obtain ⟨W0, hW0⟩ : ∃ W0, (w.alloc (.cells #[.pointer (some ⟨x, 0, none⟩)] 28)).alloc (.cells #[.pointer (some ⟨r, 0, none⟩)] 36) = W0 := ⟨_, rfl⟩
  have hsz : W0.heap.size = w.heap.size + 2 := by rw [← hW0]; simp
  have hg0 : w.grownBy W0 none := by rw [← hW0]; exact (World.grownBy_alloc w _ none).trans (World.grownBy_alloc _ _ none)
  have hbox : W0.heap[w.heap.size]? = some (.cells #[.pointer (some ⟨x, 0, none⟩)] 28) := by rw [← hW0]; exact (Below.heap_alloc _ _ _ (by simp)).trans (heap_alloc_new w _)
  rw [hW0] at hseq' ⊢
  clear hW0
  have hS0 : Sink b R s [] [] (.slice none 0 0) W0 := hsink.turn hg0 (fun r e => by cases e)
  have hM0 : Moves b R s (.slice none 0 0) (.slice none 0 0) w W0 := (Moves.refl _ _ _ _ w).turn hg0 (fun r e => by cases e)
  have hx0 : W0.heap[x]? = some (.cells #[.pointer (some ⟨s, 0, none⟩)] 52) := (hM0.block x hxl hcx).trans hx
  have hcb : Cold b R s (.slice none 0 0) w.heap.size := ⟨by omega, by omega, by omega, by simp [Value.ownBlock]⟩
  refine wpIn_rangeFunc_ownG rfl (by decide) (gf := 29) (lb := #[.pointer (some ⟨w.heap.size + 1, 0, none⟩)]) rfl trivial (enters_of Tryd.func29 (by kernel_rfl) rfl) hseq'
    Kp.trans (Kp.putObj (n := W0.heap.size) (by omega)) (Below.refl _ _) (fun _ => rfl)
    (fun pre W => ∃ bs pend v', bs ++ pend = bytesOf pre ∧ Sink b R s bs pend v' W ∧ Moves b R s (.slice none 0 0) v' W0 W)
    (fun _ _ _ => False)
    (fun pre A B row ⟨bs, pend, v', h1, h2, h3⟩ hg hr => ⟨bs, pend, v', h1, h2.turn hg (fun q e => (hr q e).2), h3.turn hg (fun q e => (hr q e).1)⟩)
    (fun _ _ _ _ _ hs _ _ => hs)
    ⟨[], [], _, rfl, hS0, Moves.refl _ _ _ _ _⟩
    (fun y => { tmps := #[.pointer (some ⟨x, 0, none⟩), .pointer (some ⟨r, 0, none⟩), .pointer (some ⟨w.heap.size, 0, none⟩), undef, y.enc, .pointer (some ⟨r, 0, none⟩), .func (.func 29) #[] #[.pointer (some ⟨w.heap.size + 1, 0, none⟩)], y.enc, undef, undef, undef, undef, undef, undef], defers := [] })
    ?assign ?body ?done ?stop
  case assign =>
    intro l y W K hK
    gi_wp2
    exact hK
  case body =>
    rintro l pre ⟨⟨xb, xo, n, c, cs⟩, hy⟩ W ⟨bs, pend, v', hsum, hS, hM⟩ hlen
    have hy' := hy
    obtain ⟨y1, y2, y3, y4, y5, y6, y7⟩ := hy'
    simp only at y1 y2 y3 y4 y5 y6 y7
    have e0 : W.cell? ⟨w.heap.size, 0, none⟩ = some (.pointer (some ⟨x, 0, none⟩)) := by rw [Lib.cell_of_heap ((hM.block _ (by omega) hcb).trans hbox)]; rfl
    have e1 : W.cell? ⟨x, 0, none⟩ = some (.pointer (some ⟨s, 0, none⟩)) := by rw [Lib.cell_of_heap ((hM.block _ (by omega) hcx).trans hx0)]; rfl
    have hcxb : Cold b R s (.slice none 0 0) xb := ⟨by omega, by omega, by omega, by simp [Value.ownBlock]⟩
    have hlen2 := bytesOf_le pre
    have hlen3 := congrArg List.length hsum
    rw [List.length_append] at hlen3
    have hwr := write_any b R s bs pend cs v' W hS xb xo n c y1 y2 y3 (hM.cold (by omega) hcxb) (fun j u hj => by
      have h1 := y6 j u hj
      have h2 := World.block_lt_of_cell? w _ h1
      exact (World.cell?_of_block ((hM.block xb (by omega) hcxb).trans (hM0.block xb h2 hcxb))).trans h1) y7 (by
      have : pre.length * 2097152 ≤ 4194304 * 2097152 := Nat.mul_le_mul_right _ (by omega)
      omega)
    simp only [Piece.enc]
    gi_wp2_with (refine ⟨trivial, ?_⟩; gi_at_call 18; refine (CallsIn.inRound l (callsIn_wide.2 hwr)).mono ?_; rintro e W2 ⟨rfl, bs2, pend2, v2, h1, h2, h3⟩)
    refine ⟨(keepsOthers hS h2 h3).from _, Kp.of_moves hS h2 h3, bs2, pend2, v2, ?_, h2, hM.trans h3⟩
    refine h1.trans ?_
    rw [hsum]
    exact (bytesOf_snoc pre ⟨(xb, xo, n, c, cs), hy⟩).symm
  case done =>
    rintro D ys W hD hys ⟨bs, pend, v', hsum, hS, hM⟩ hK
    gi_wp2
    refine ⟨by simp, .inl ⟨_, _, rfl, run_takeDeferred hK, ?_⟩⟩
    refine ⟨_, results_none rfl _ _ _, rfl, bs, pend, v', hsum.trans hys, hS.turn (grownBy_putObj' W D _) (fun q e => by cases e; exact ⟨_, hK, rfl⟩), ?_⟩
    exact (hM0.trans hM).turn (grownBy_putObj' W D _) (fun q e => by cases e; omega)
  case stop =>
    rintro D c pre W _ _ h _
    exact h.elim
end Go.Proofs.Qxb6614495aDoor
