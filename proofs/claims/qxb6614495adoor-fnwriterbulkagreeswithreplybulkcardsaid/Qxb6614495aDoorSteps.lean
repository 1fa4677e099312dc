/-
  The law's steps: one Add more; the sink's bytes behind Reply.
-/
import Derived.Test.Qxb6614495aDoorWhole
namespace Go.Proofs.Qxb6614495aDoor
open Go.RowKit Go.Shelf

theorem cells_append (a b : List Int) : cells (a ++ b) = cells a ++ cells b := by simp [cells]
theorem flatten_take_succ (L : List (List Int)) (k : Nat) (l : List Int) (h : L[k]? = some l) : (L.take (k + 1)).flatten = (L.take k).flatten ++ l := by
  have hk : k < L.length := (List.getElem?_eq_some_iff.1 h).1
  have e : L[k] = l := (List.getElem?_eq_some_iff.1 h).2
  rw [List.take_succ_eq_append_getElem hk, e]; simp
theorem flatten_len (L : List (List Int)) : L.flatten.length = sumLen L := by simp [sumLen, List.length_flatten]

/-- What the loop over Add keeps. -/
structure Added (w1 : World) (r : Nat) (L : List (List Int)) (k : Nat) (wr : World) : Prop where
  bel : Below w1.heap.size w1 wr
  rep : ∃ (T : List Value) (tv rv : Value) (G : List (Nat × Value × List Int)), Rep w1.heap.size r T (G.map fun g => (g.1, g.2.1)) tv rv wr ∧ (∀ g ∈ G, BytesAt w1 g.2.1 g.2.2 ∧ 512 ≤ g.2.2.length ∧ g.2.2.length ≤ 2097152) ∧ rising T.length 0 (G.map (·.1)) ∧
    T.length ≤ sumLen (L.take k) ∧ (∀ u ∈ T, u.oneCell' = true) ∧ G.length ≤ k ∧ parts T 0 (G.map fun g => (g.1, cells g.2.2)) = cells (L.take k).flatten

theorem Added.start (w1 : World) (L : List (List Int)) : Added w1 w1.heap.size L 0 (w1.alloc (.cells #[.slice none 0 0, .slice none 0 0] 34)) := by
  refine ⟨(Below.refl _ w1).alloc (Nat.le_refl _) _, [], _, _, [], ⟨heap_alloc_new w1 _, ⟨rfl, .inl ⟨rfl, rfl⟩⟩, ⟨rfl, .inl ⟨rfl, rfl⟩⟩, by simp, Nat.le_refl _⟩, fun g hg => (by cases hg), Nat.le_refl _, Nat.zero_le _, fun u hu => (by cases hu), Nat.le_refl _, ?_⟩
  simp [parts, cells]

theorem add_any (w1 : World) (r : Nat) (L : List (List Int)) (k : Nat) (l : List Int) (u : Value) (wr : World) (h : Added w1 r L k wr) (hl : L[k]? = some l) (hu : BytesAt w1 u l) (hs : sumLen L ≤ 1048576) (hk : k ≤ 1048576) :
    Calls Tryd.prog 16 #[.pointer (some ⟨r, 0, none⟩), u] wr fun e w' => e = .returned (.tuple #[]) ∧ Added w1 r L (k + 1) w' := by
  obtain ⟨hbel, T, tv, rv, G, hR, hG, hri, hTl, ho, hGl, hp⟩ := h
  have hsl := sumLen_take_succ L k l hl
  have hs2 := sumLen_take_le L (k + 1)
  have hfl := flatten_take_succ L k l hl
  have hri' : rising T.length 0 ((G.map fun g => (g.1, cells g.2.2)).map (·.1)) := by rw [List.map_map]; exact hri
  by_cases hsh : l.length < 512
  · refine (add_short w1.heap.size r T _ tv rv wr hR l u (hu.same hbel.block) hsh (by omega)).mono ?_
    rintro e w' ⟨rfl, tv', hR', hB'⟩
    refine ⟨rfl, hbel.trans hB', T ++ cells l, tv', rv, G, hR', hG, rising_mono (by simp) hri, ?_, ?_, by omega, ?_⟩
    · rw [List.length_append, cells_length]; omega
    · intro q hq
      rcases List.mem_append.1 hq with hq | hq
      · exact ho q hq
      · exact cells_one l q hq
    · rw [parts_text T (cells l) 0 _ hri', hp, hfl, cells_append]
  · obtain ⟨a, n, c, rfl, q1, q2, q3, q4, q5⟩ := hu
    have hu : BytesAt w1 (.slice a n c) l := ⟨a, n, c, rfl, q1, q2, q3, q4, q5⟩
    refine (add_long w1.heap.size r T _ tv rv wr hR a n c (by omega) (by unfold maxLen at q3; omega) (by rw [List.length_map]; omega)).mono ?_
    rintro e w' ⟨rfl, rv', hR', hB'⟩
    refine ⟨rfl, hbel.trans hB', T, tv, rv', G ++ [(T.length, .slice a n c, l)], ?_, ?_, ?_, by omega, ho, by simp; omega, ?_⟩
    · rw [List.map_append]; exact hR'
    · intro g hg
      rcases List.mem_append.1 hg with hg | hg
      · exact hG g hg
      · rw [List.mem_singleton] at hg; subst hg; exact ⟨hu, by simp only; omega, by simp only; omega⟩
    · rw [List.map_append]; exact rising_snoc hri
    · rw [List.map_append, List.map_cons, List.map_nil, parts_ref T (cells l) 0 _ hri', hp, hfl, cells_append]

/-- Writer.Reply, over a Reply that holds all of L. -/
theorem reply_added (w1 : World) (r : Nat) (L : List (List Int)) (n : Nat) (wr : World) (h : Added w1 r L n wr) (hn : L.length = n) (hs : L.length + sumLen L ≤ 1048576) :
    Calls Tryd.prog 12 #[.pointer (some ⟨wr.heap.size + 3, 0, none⟩), .pointer (some ⟨r, 0, none⟩)] (sinkW wr) fun e w' => e = .returned (.tuple #[]) ∧
      Done wr.heap.size (wr.heap.size + 1) (wr.heap.size + 2) (cells L.flatten) (.slice none 0 0) (sinkW wr) w' := by
  obtain ⟨hbel, T, tv, rv, G, hR, hG, hri, hTl, ho, hGl, hp⟩ := h
  have := sumLen_take_le L n
  rw [← hn, List.take_length] at hp
  rw [← hp]
  exact reply_whole w1.heap.size r T tv rv G w1 wr hR hbel hG hri (by omega) ho (by omega)

/-- The sink's bytes, as the law reads them. -/
structure Out (w1 : World) (fl : List Int) (v : Value) (wf : World) : Prop where
  bel : Below w1.heap.size w1 wf
  row : ∃ a c, v = .slice a fl.length c ∧ fl.length ≤ c ∧ c ≤ maxLen ∧ ∀ j x, fl[j]? = some x → ∃ g, a = some ⟨g, 0, none⟩ ∧ wf.cell? ⟨g, j, none⟩ = some (.int .u8 x)
theorem Out.drewN {w1 : World} {fl : List Int} {v : Value} {wf : World} (h : Out w1 fl v wf) (n : Nat) : Out w1 fl v (wf.drewN n) := ⟨⟨h.bel.os, h.bel.tape, h.bel.output, h.bel.size, h.bel.block⟩, h.row⟩

theorem sinkBytes_done (w1 wr : World) (fl : List Int) (w2 : World) (hbel : Below w1.heap.size w1 wr) (hfl : fl.length ≤ 1048576) (h : Done wr.heap.size (wr.heap.size + 1) (wr.heap.size + 2) (cells fl) (.slice none 0 0) (sinkW wr) w2) :
    Calls Tryd.prog 10 #[.pointer (some ⟨wr.heap.size + 4, 0, none⟩)] w2 fun e w' => ∃ v', e = .returned v' ∧ Out w1 fl v' w' := by
  obtain ⟨bs, pend, v, hsum, hS, hM⟩ := h
  have hsz := sinkW_size wr
  have hlen := congrArg List.length hsum
  rw [List.length_append, cells_length] at hlen
  have hc : ∀ k, k ≠ wr.heap.size → k ≠ wr.heap.size + 1 → k ≠ wr.heap.size + 2 → Cold wr.heap.size (wr.heap.size + 1) (wr.heap.size + 2) (.slice none 0 0) k := fun k h1 h2 h3 => ⟨h1, h2, h3, by simp [Value.ownBlock]⟩
  refine (sinkBytes_any wr.heap.size (wr.heap.size + 1) (wr.heap.size + 2) (wr.heap.size + 3) (wr.heap.size + 4) bs pend v w2 hS (by omega) ((hM.block _ (by omega) (hc _ (by omega) (by omega) (by omega))).trans (sinkW_4 wr)) ((hM.block _ (by omega) (hc _ (by omega) (by omega) (by omega))).trans (sinkW_3 wr))).mono ?_
  rintro e w' ⟨v', rfl, hB, hM2⟩
  have hM3 := hM.trans hM2
  have hb1 := hbel.size
  refine ⟨v', rfl, ⟨hM3.os.trans hbel.os, hM3.tape.trans hbel.tape, hM3.output.trans hbel.output, Nat.le_trans hb1 (by have := hM3.size; omega), fun k hk => (hM3.block k (by omega) (hc k (by omega) (by omega) (by omega))).trans ((sinkW_old wr k (by omega)).trans (hbel.block k hk))⟩, ?_⟩
  rw [hsum] at hB
  rcases hB.row with ⟨rfl, h0⟩ | ⟨g, cap, cur, rfl, _, hg, h1, h2, h3, h4, _⟩
  · obtain rfl : fl = [] := by have := congrArg List.length h0; rw [cells_length] at this; exact List.eq_nil_of_length_eq_zero this
    exact ⟨none, 0, rfl, Nat.le_refl _, Nat.zero_le _, fun j x hj => by simp at hj⟩
  · rw [cells_length] at h1 h4 ⊢
    refine ⟨_, cap, rfl, h1, h2, fun j x hj => ⟨g, rfl, ?_⟩⟩
    have hj' : (cells fl)[j]? = some (.int .u8 x) := by simp [cells, hj]
    rw [← h4, List.getElem?_take] at hj'
    split at hj'
    · rw [Lib.cell_of_heap hg, ← Array.getElem?_toList]; exact hj'
    · cases hj'
end Go.Proofs.Qxb6614495aDoor
