/-
  bufio.Writer: Available, Buffered, Flush.
-/
import Derived.Test.Qxb6614495aDoorBuf
import Derived.Deep.RegionHeld3
import Derived.Deep.DrawnRows
namespace Go.Proofs.Qxb6614495aDoor
open Go.RowKit
attribute [local go_sem ↓] Go.wp_at_zero Go.wp_at_succ

/-- Available. -/
theorem avail_any (s R p : Nat) (w : World) (c1 : w.cell? ⟨s, 1, none⟩ = some (.slice (some ⟨R, 0, none⟩) 16384 16384)) (c2 : w.cell? ⟨s, 2, none⟩ = some (.int .i64 p)) (hp : p ≤ 16384) :
    Calls Tryd.prog 26 #[.pointer (some ⟨s, 0, none⟩)] w fun e w' => e = .returned (.int .i64 (16384 - (p : Int))) ∧ ∃ k, w' = w.drewN k := by
  go_enter Tryd.func26, Tryd.ntmps26
  go_wp2
  go_quiet (fail)
  go_wp2
  go_ret
  exact ⟨rfl, _, rfl⟩

/-- Buffered. -/
theorem buffered_any (s p : Nat) (w : World) (c2 : w.cell? ⟨s, 2, none⟩ = some (.int .i64 p)) :
    Calls Tryd.prog 27 #[.pointer (some ⟨s, 0, none⟩)] w fun e w' => e = .returned (.int .i64 p) ∧ w' = w := by
  go_enter Tryd.func27, Tryd.ntmps27
  go_wp2
  go_ret
  exact ⟨rfl, rfl⟩

theorem Sink.drew {b R s : Nat} {bs pend : List Value} {v : Value} {w : World} (h : Sink b R s bs pend v w) : Sink b R s bs pend v w.drew := ⟨⟨h.buf.blk, h.buf.row⟩, h.one, h.str, h.row, h.fit, h.onep, h.nv⟩
theorem Sink.psrc {b R s : Nat} {bs pend : List Value} {v : Value} {w : World} (h : Sink b R s bs pend v w) : ∀ j u, pend[j]? = some u → w.cell? ((⟨R, 0, none⟩ : Addr).add j) = some u := by
  obtain ⟨cur, hR, hsz, htk⟩ := h.row
  intro j u hj
  exact Lib.cells_of_row hR pend.length j u (by rw [htk]; exact hj)

/-- Behind the buffer's Write the writer's own two blocks stand. -/
theorem flushed {b R s : Nat} {bs pend : List Value} {v v' : Value} {w w' : World} (h : Sink b R s bs pend v w) (hB : BufAt b (bs ++ pend) v' w') (hS : Shift b v v' w w') :
    Sink b R s (bs ++ pend) [] v' (w'.setCell ⟨s, 2, none⟩ (.int .i64 0)) ∧ Moves b R s v v' w (w'.setCell ⟨s, 2, none⟩ (.int .i64 0)) := by
  have hs : w'.heap[s]? = w.heap[s]? := hS.block s (Array.getElem?_eq_some_iff.1 h.str).1 h.ne_sb h.ns
  obtain ⟨cur, hR, hsz, htk⟩ := h.row
  have hR' : w'.heap[R]? = some (.cells cur 5 (0, 0)) := (hS.block R (Array.getElem?_eq_some_iff.1 hR).1 (Ne.symm h.ne_bR) h.nv).trans hR
  obtain ⟨⟨lr, hb⟩, hrow⟩ := hB
  have hsv : ∀ g, v'.ownBlock = some g → g ≠ s := by
    intro g hg e
    rcases hS.new g hg with h1 | h1
    · rw [e] at h1; exact h.ns h1
    · rw [e] at h1; have := (Array.getElem?_eq_some_iff.1 h.str).1; omega
  refine ⟨⟨⟨⟨lr, ?_⟩, ?_⟩, ?_, ?_, ⟨cur, ?_, hsz, rfl⟩, Nat.zero_le _, fun u hu => by simp at hu, ?_⟩, (Moves.of_shift hS).setCell ⟨s, 2, none⟩ (.inl rfl) _⟩
  · rw [Below.heap_setCell _ _ _ _ (Ne.symm h.ne_sb)]; exact hb
  · rcases hrow with ⟨h1, h2⟩ | ⟨g, cap, cg, h1, h2, h3, h4⟩
    · exact .inl ⟨h1, h2⟩
    · refine .inr ⟨g, cap, cg, h1, h2, ?_, h4⟩
      rw [Below.heap_setCell _ _ _ _ (hsv g (by rw [h1]; rfl))]; exact h3
  · intro u hu
    rcases List.mem_append.1 hu with h1 | h1
    · exact h.one u h1
    · exact h.onep u h1
  · exact heap_setCell_same w' s 2 _ _ _ (hs.trans h.str)
  · rw [Below.heap_setCell _ _ _ _ (Ne.symm h.ne_sR)]; exact hR'
  · intro e
    rcases hS.new R e with h1 | h1
    · exact h.nv h1
    · have := (Array.getElem?_eq_some_iff.1 hR).1; omega

theorem str_shift {b R s : Nat} {bs pend : List Value} {v v' : Value} {w w' : World} (h : Sink b R s bs pend v w) (hS : Shift b v v' w w') :
    w'.cell? ⟨s, 0, none⟩ = some .nilIface ∧ w'.cell? ⟨s, 1, none⟩ = some (.slice (some ⟨R, 0, none⟩) 16384 16384) ∧ w'.cell? ⟨s, 2, none⟩ = some (.int .i64 (pend.length : Nat)) ∧
      w'.cell? ⟨s, 3, none⟩ = some (.iface 39 (.pointer (some ⟨b, 0, none⟩))) ∧ ∀ i, w'.frozen? ⟨s, i, none⟩ = false := by
  have hs : w'.heap[s]? = some _ := (hS.block s (Array.getElem?_eq_some_iff.1 h.str).1 h.ne_sb h.ns).trans h.str
  exact ⟨by rw [Lib.cell_of_heap hs]; rfl, by rw [Lib.cell_of_heap hs]; rfl, by rw [Lib.cell_of_heap hs]; rfl, by rw [Lib.cell_of_heap hs]; rfl, fun i => Lib.frozen_of_heap hs i⟩

set_option maxHeartbeats 4000000 in
set_option maxRecDepth 100000 in
/-- Flush. -/
theorem flush_any (b R s : Nat) (bs pend : List Value) (v : Value) (w : World) (h : Sink b R s bs pend v w) (hlim : bs.length + pend.length ≤ 140737488355328) :
    Calls Tryd.prog 22 #[.pointer (some ⟨s, 0, none⟩)] w fun e w' => e = .returned .nilIface ∧ ∃ v', Sink b R s (bs ++ pend) [] v' w' ∧ Moves b R s v v' w w' := by
  have c0 := h.c0
  have c1 := h.c1
  have c2 := h.c2
  have c3 := h.c3
  have hfit := h.fit
  cases hp : pend with
  | nil =>
    subst hp
    go_enter Tryd.func22, Tryd.ntmps22
    go_wp2
    go_ret
    exact ⟨rfl, v, by rw [List.append_nil]; exact h, Moves.refl _ _ _ _ _⟩
  | cons x rest =>
    rw [← hp]
    have hpos : 1 ≤ pend.length := by rw [hp]; simp
    have f2 := h.f 2
    have HS : Hid (Sink b R s bs pend v w) := h
    have hm : ∀ w : World, (method 223 39 (.pointer (some ⟨b, 0, none⟩)) "Write").run Tryd.prog w = .ok (65, .pointer (some ⟨b, 0, none⟩)) w := fun _ => by kernel_rfl
    have hb0 : (0 : Int) ≤ (pend.length : Int) := by omega
    have hb1 : (pend.length : Int) ≤ 16384 := by omega
    clear h hp
    go_enter Tryd.func22, Tryd.ntmps22
    go_wp2
    go_region_held3 (fun w' => w'.cell? ⟨s, 0, none⟩ = some .nilIface ∧ w'.cell? ⟨s, 1, none⟩ = some (.slice (some ⟨R, 0, none⟩) 16384 16384) ∧ w'.cell? ⟨s, 2, none⟩ = some (.int .i64 (pend.length : Nat)) ∧ w'.cell? ⟨s, 3, none⟩ = some (.iface 39 (.pointer (some ⟨b, 0, none⟩)))) (go_keep)
      ((go_at_call 65; refine (bufWrite b bs pend v ⟨R, 0, none⟩ pend.length 16384 _ ?_ HS.out.one rfl hpos (Ne.symm HS.out.ne_bR) ?_ HS.out.onep hlim).mono ?_; exact HS.out.drew.buf; exact HS.out.drew.psrc; rintro e w2 ⟨rfl, v', hB, hSh⟩; obtain ⟨d0, d1, d2, d3, df⟩ := str_shift HS.out.drew hSh))
    go_wp2
    go_ret
    obtain ⟨q1, q2⟩ := flushed HS.out.drew hB hSh
    exact ⟨rfl, v', q1, q2.os, q2.tape, q2.output, q2.size, q2.block, q2.new⟩
end Go.Proofs.Qxb6614495aDoor
