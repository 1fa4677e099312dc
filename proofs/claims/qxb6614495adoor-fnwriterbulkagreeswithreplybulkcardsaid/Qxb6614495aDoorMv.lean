/-
  Frames that do not speak of the tape; the sink behind appendHeader onto its own row.
-/
import Derived.Test.Qxb6614495aDoorHead
import Derived.Test.Qxb6614495aDoorBufio
namespace Go.Proofs.Qxb6614495aDoor
open Go.RowKit

/-- THE FRAME of a step of the sink's, the tape left aside. -/
structure Mv (b R s : Nat) (v v' : Value) (w w' : World) : Prop where
  os : w'.os = w.os
  output : w'.output = w.output
  size : w.heap.size ≤ w'.heap.size
  block : ∀ k, k < w.heap.size → Cold b R s v k → w'.heap[k]? = w.heap[k]?
  new : ∀ k, v'.ownBlock = some k → v.ownBlock = some k ∨ w.heap.size ≤ k
theorem Moves.mv {b R s : Nat} {v v' : Value} {w w' : World} (h : Moves b R s v v' w w') : Mv b R s v v' w w' := ⟨h.os, h.output, h.size, h.block, h.new⟩
theorem Mv.refl (b R s : Nat) (v : Value) (w : World) : Mv b R s v v w w := (Moves.refl b R s v w).mv
theorem Mv.cold {b R s : Nat} {v v' : Value} {w w' : World} (h : Mv b R s v v' w w') {k : Nat} (hk : k < w.heap.size) (hc : Cold b R s v k) : Cold b R s v' k :=
  ⟨hc.1, hc.2.1, hc.2.2.1, fun e => by rcases h.new k e with h1 | h1; exact hc.2.2.2 h1; omega⟩
theorem Mv.trans {b R s : Nat} {v v' v'' : Value} {w w' w'' : World} (h : Mv b R s v v' w w') (h' : Mv b R s v' v'' w' w'') : Mv b R s v v'' w w'' :=
  ⟨h'.os.trans h.os, h'.output.trans h.output, Nat.le_trans h.size h'.size,
   fun k hk hc => (h'.block k (Nat.lt_of_lt_of_le hk h.size) (h.cold hk hc)).trans (h.block k hk hc),
   fun k e => by rcases h'.new k e with h1 | h1; exact h.new k h1; exact .inr (Nat.le_trans h.size h1)⟩

/-- The room behind what waits, as a slice that came in. -/
theorem Sink.came {b R s : Nat} {bs pend : List Value} {v : Value} {W : World} (h : Sink b R s bs pend v W) : Came W 1 (if 16384 = pend.length then some ⟨R, 0, none⟩ else some ⟨R, pend.length, none⟩) R pend.length 0 (16384 - pend.length) [] := by
  obtain ⟨cur, hR, hsz, _⟩ := h.row
  refine ⟨Nat.zero_le _, fun hc => by rw [if_neg (by omega)], fun _ => (Array.getElem?_eq_some_iff.1 hR).1, rfl, fun j u hj => by simp at hj, fun j hj => ⟨?_, Lib.frozen_of_heap hR _⟩⟩
  rw [Lib.cell_of_heap hR, Array.getElem?_eq_getElem (by omega)]; rfl
/-- The sink stands behind whatever is appended onto the room. -/
theorem Sink.upon {b R s : Nat} {bs pend : List Value} {v : Value} {W : World} (h : Sink b R s bs pend v W) {ao : Option Addr} {w : World} {u : Value} {m : Nat} {ks : List Value} {r : Nat}
    (hU : Upon W 5 1 ao R pend.length 0 (16384 - pend.length) [] w u m ks r) : Sink b R s bs pend v w ∧ Mv b R s v v W w := by
  have hk := hU.kept
  have hoth : ∀ k, k < W.heap.size → k ≠ R → w.heap[k]? = W.heap[k]? := fun k hk1 hne => hk.block hk1 (fun p ⟨_, _, e⟩ e2 => hne (by rw [← e2, e]; rfl))
  obtain ⟨cur, hR, hsz, htk⟩ := h.row
  have hRl : R < W.heap.size := (Array.getElem?_eq_some_iff.1 hR).1
  have hrow : ∃ cur', w.heap[R]? = some (.cells cur' 5 (0, 0)) ∧ cur'.size = 16384 ∧ cur'.toList.take pend.length = pend := by
    have hm := hk.2.2 R hRl
    rw [hR] at hm
    cases hw : w.heap[R]? with
    | none => rw [hw] at hm; cases hm
    | some o =>
      rw [hw] at hm
      cases o with
      | cells c' t' fr' =>
        obtain ⟨rfl, rfl, hs', hj⟩ := hm
        refine ⟨c', rfl, hs'.trans hsz, ?_⟩
        refine (List.ext_getElem? fun j => ?_).trans htk
        rw [List.getElem?_take, List.getElem?_take]
        by_cases hjl : j < pend.length
        · rw [if_pos hjl, if_pos hjl, Array.getElem?_toList, Array.getElem?_toList]
          exact hj j (fun ⟨j', _, e⟩ => by injection e with _ e2; omega)
        · rw [if_neg hjl, if_neg hjl]
      | _ => cases hm
  obtain ⟨⟨lr, hb⟩, hbrow⟩ := h.buf
  refine ⟨⟨⟨⟨lr, ?_⟩, ?_⟩, h.one, ?_, hrow, h.fit, h.onep, h.nv⟩, ⟨hk.1, hk.2.1, hk.size, fun k hk1 hc => hoth k hk1 hc.2.1, fun k e => .inl e⟩⟩
  · exact (hoth b (Array.getElem?_eq_some_iff.1 hb).1 h.ne_bR).trans hb
  · rcases hbrow with h1 | ⟨g, cap, cg, h1, h2, h3, h4⟩
    · exact .inl h1
    · exact .inr ⟨g, cap, cg, h1, h2, (hoth g (Array.getElem?_eq_some_iff.1 h3).1 (fun e => h.nv (by rw [h1, ← e]; rfl))).trans h3, h4⟩
  · exact (hoth s (Array.getElem?_eq_some_iff.1 h.str).1 h.ne_sR).trans h.str
end Go.Proofs.Qxb6614495aDoor
