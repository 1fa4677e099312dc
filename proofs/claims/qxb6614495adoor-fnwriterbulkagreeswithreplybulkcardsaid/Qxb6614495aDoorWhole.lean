/-
  A Reply that has been filled by Add, written by Writer.Reply to a new sink.
-/
import Derived.Test.Qxb6614495aDoorIter
import Derived.Test.Qxb6614495aDoorSink
namespace Go.Proofs.Qxb6614495aDoor
open Go.RowKit Go.Shelf

theorem piece_of {w1 wS : World} {b : Nat} {u : Value} {l : List Int} (h : BytesAt w1 u l) (hl : 512 ≤ l.length) (hm : l.length ≤ 2097152) (hb : w1.heap.size ≤ b) (hk : ∀ k, k < w1.heap.size → wS.heap[k]? = w1.heap[k]?) :
    ∃ x : Piece wS b, x.enc = u ∧ x.bytes = cells l := by
  obtain ⟨a, n, c, rfl, h1, h2, h3, _, h4⟩ := h
  obtain ⟨x0, hx0⟩ : ∃ x0, l[0]? = some x0 := ⟨_, List.getElem?_eq_getElem (by omega)⟩
  obtain ⟨_, _, bb, o, rfl, hc⟩ := h4 0 x0 hx0
  have hlt := World.block_lt_of_cell? w1 _ hc
  have hr : Readable wS b (bb, o, n, c, cells l) := by
    refine ⟨by simp only [cells_length]; exact h1, h2, h3, by simp only; omega, by simp only at hlt ⊢; omega, fun j v hj => ?_, cells_one l⟩
    obtain ⟨y, hy, rfl⟩ := cells_at hj
    obtain ⟨_, _, b2, o2, e2, hc2⟩ := h4 j y hy
    cases e2
    exact (World.cell?_of_block (hk bb hlt)).trans hc2
  exact ⟨⟨_, hr⟩, rfl, rfl⟩

theorem pieces_of {w1 wS : World} {b : Nat} (hb : w1.heap.size ≤ b) (hk : ∀ k, k < w1.heap.size → wS.heap[k]? = w1.heap[k]?) :
    ∀ (G : List (Nat × Value × List Int)), (∀ g ∈ G, BytesAt w1 g.2.1 g.2.2 ∧ 512 ≤ g.2.2.length ∧ g.2.2.length ≤ 2097152) →
      ∃ Z : List (Nat × Piece wS b), (Z.map fun p => (p.1, p.2.enc)) = (G.map fun g => (g.1, g.2.1)) ∧ (Z.map fun p => (p.1, p.2.bytes)) = (G.map fun g => (g.1, cells g.2.2))
  | [], _ => ⟨[], rfl, rfl⟩
  | g :: G, h => by
    obtain ⟨Z, h1, h2⟩ := pieces_of hb hk G (fun g' hg => h g' (List.mem_cons_of_mem _ hg))
    obtain ⟨q1, q2, q3⟩ := h g List.mem_cons_self
    obtain ⟨x, e1, e2⟩ := piece_of q1 q2 q3 hb hk
    exact ⟨(g.1, x) :: Z, by rw [List.map_cons, List.map_cons, h1, e1], by rw [List.map_cons, List.map_cons, h2, e2]⟩

theorem own_zero {w w' : World} {B n size : Nat} {e : TypeId} {v : Value} {xs : List Value} (h : w.ownsRow B e size v n xs) (hk : ∀ k, k < w.heap.size → w'.heap[k]? = w.heap[k]?) : w'.ownsRow 0 e size v n xs := by
  refine ⟨h.1, ?_⟩
  rcases h.2 with h | ⟨g, cap, cur, e1, _, hg, rest⟩
  · exact .inl h
  · exact .inr ⟨g, cap, cur, e1, Nat.zero_le _, (hk g (Array.getElem?_eq_some_iff.1 hg).1).trans hg, rest⟩
theorem own_lt {w : World} {B n size : Nat} {e : TypeId} {v : Value} {xs : List Value} (h : w.ownsRow B e size v n xs) {k : Nat} (hk : v.ownBlock = some k) : k < w.heap.size := by
  rcases h.2 with ⟨rfl, _⟩ | ⟨g, cap, cur, rfl, _, hg, _⟩
  · simp [Value.ownBlock] at hk
  · simp [Value.ownBlock] at hk; subst hk; exact (Array.getElem?_eq_some_iff.1 hg).1

theorem reply_whole (B r : Nat) (T : List Value) (tv rv : Value) (G : List (Nat × Value × List Int)) (w1 w0 : World) (hrep : Rep B r T (G.map fun g => (g.1, g.2.1)) tv rv w0) (hbel : Below w1.heap.size w1 w0)
    (hG : ∀ g ∈ G, BytesAt w1 g.2.1 g.2.2 ∧ 512 ≤ g.2.2.length ∧ g.2.2.length ≤ 2097152) (hris : rising T.length 0 (G.map (·.1))) (hT : T.length ≤ 2097152) (hone : ∀ u ∈ T, u.oneCell' = true) (hGl : G.length ≤ 1048576) :
    Calls Tryd.prog 12 #[.pointer (some ⟨w0.heap.size + 3, 0, none⟩), .pointer (some ⟨r, 0, none⟩)] (sinkW w0) fun e w' => e = .returned (.tuple #[]) ∧
      Done w0.heap.size (w0.heap.size + 1) (w0.heap.size + 2) (parts T 0 (G.map fun g => (g.1, cells g.2.2))) (.slice none 0 0) (sinkW w0) w' := by
  have hold := sinkW_old w0
  have hsz := sinkW_size w0
  obtain ⟨Z, hZ1, hZ2⟩ := pieces_of (w1 := w1) (wS := sinkW w0) (b := w0.heap.size) hbel.size (fun k hk => (hold k (Nat.lt_of_lt_of_le hk hbel.size)).trans (hbel.block k hk)) G hG
  have hZl : Z.length = G.length := by have := congrArg List.length hZ1; simpa using this
  have hZ0 : Z.map (·.1) = G.map (·.1) := by have := congrArg (List.map Prod.fst) hZ1; simpa [List.map_map, Function.comp_def] using this
  have hrl : r < w0.heap.size := (Array.getElem?_eq_some_iff.1 hrep.blk).1
  refine callsIn_wide.1 (reply_in w0.heap.size (w0.heap.size + 1) (w0.heap.size + 2) (w0.heap.size + 3) r (sinkW w0) _ (2 * Z.length + 1) ?_ (by omega) _ (sinkW_sink w0) rfl (by omega) (by omega) (sinkW_3 w0))
  intro wI hwI
  have hszI : wI.heap.size = w0.heap.size + 7 := by rw [hwI]; simp [hsz]
  have hoI : ∀ k, k < (sinkW w0).heap.size → wI.heap[k]? = (sinkW w0).heap[k]? := fun k hk => by
    rw [hwI, Below.heap_alloc _ _ _ (by simp; omega), Below.heap_alloc _ _ _ hk]
  have hbI : wI.heap[(sinkW w0).heap.size + 1]? = some (.cells #[.pointer (some ⟨r, 0, none⟩)] 36) := by rw [hwI]; exact new_at (by simp)
  clear hwI
  intro l J Jx W hW hJ hJx hY h0
  have hkW : ∀ k, k < wI.heap.size → W.heap[k]? = wI.heap[k]? := hW.block
  have hk0 : ∀ k, k < w0.heap.size → W.heap[k]? = w0.heap[k]? := fun k hk => (hkW k (by omega)).trans ((hoI k (by omega)).trans (hold k hk))
  have hbW : W.heap[w0.heap.size]? = some (.cells #[.slice none 0 0, .int .i64 0, .int .i8 0] 43) := (hkW _ (by omega)).trans ((hoI _ (by omega)).trans (sinkW_0 w0))
  have hown : ∀ k, ¬ ownAt w0.heap.size W k := fun k ⟨u, h1, h2⟩ => by
    rw [Lib.cell_of_heap hbW] at h1
    cases h1
    simp [Value.ownBlock] at h2
  have hst : ∀ k, k < w0.heap.size → Still w0.heap.size (w0.heap.size + 1) (w0.heap.size + 2) W k := fun k hk => ⟨by omega, by omega, by omega, hown k⟩
  have hszW := hW.size
  have hbase : Base w0.heap.size (w0.heap.size + 1) (w0.heap.size + 2) ((sinkW w0).heap.size + 1) r T (Z.map fun p => (p.1, p.2.enc)) tv rv W :=
    { box := (hkW _ (by omega)).trans hbI
      blk := (hk0 r hrl).trans hrep.blk
      text := own_zero hrep.text hk0
      refs := by rw [hZ1]; exact own_zero hrep.refs hk0
      sbx := ⟨by omega, by omega, by omega, hown _⟩
      sr := hst r hrl
      st := fun k hk => hst k (own_lt hrep.text hk)
      sf := fun k hk => hst k (own_lt hrep.refs hk)
      ok := fun k hk => absurd hk (hown k)
      hb := by omega
      hR := by omega
      hs := by omega }
  have := iter_in w0.heap.size (w0.heap.size + 1) (w0.heap.size + 2) ((sinkW w0).heap.size + 1) r (sinkW w0) T Z tv rv l (2 * Z.length + 1) J Jx W (Nat.le_refl _) hT hone (by rw [hZ0]; exact hris) (fun g c e => by
    subst e
    have hg : g < w0.heap.size := own_lt hrep.text rfl
    refine ⟨hg, fun j u hj => ?_⟩
    rw [World.cell?_of_block (w' := sinkW w0) (w := w0) (a := ⟨g, j, none⟩) (hold g hg), hrep.text.cellAt j (by have := (List.getElem?_eq_some_iff.1 hj).1; omega)]
    exact hj) hJ hbase hY h0
  rw [hZ2] at this
  exact this
end Go.Proofs.Qxb6614495aDoor
