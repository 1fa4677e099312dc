/-
  The second law's steps: Bulk by Bulk onto the sink, Bulk by Bulk onto the Reply, the sink's bytes.
-/
import Derived.Test.Qxb6614495aDoorBulk
import Derived.Test.Qxb6614495aDoorRBulk
namespace Go.Proofs.Qxb6614495aDoor
open Go.RowKit Go.Shelf

/-- One value's encoding, as bytes. -/
def enc (l : List Int) : List Int := [36] ++ (Lib.decDigits l.length).map (fun b => (b.toNat : Int)) ++ [13, 10] ++ l ++ [13, 10]
def tot (L : List (List Int)) : List Int := (L.map enc).flatten

theorem cells_enc (l : List Int) : cells (enc l) = hdr l.length ++ cells l ++ [.int .u8 13, .int .u8 10] := by
  simp [cells, enc, hdr, Lib.byteCells]
theorem nDigits_le : ∀ (k n : Nat), n < 10 ^ (k + 1) → Lib.nDigits n ≤ k + 1
  | 0, n, h => by rw [Lib.nDigits_small (by simpa using h)]; omega
  | k + 1, n, h => by
    by_cases hn : n < 10
    · rw [Lib.nDigits_small hn]; omega
    · rw [Lib.nDigits_big hn]
      have := nDigits_le k (n / 10) (by rw [Nat.div_lt_iff_lt_mul (by omega)]; rw [Nat.pow_succ] at h; exact h)
      omega
theorem enc_length (l : List Int) : (enc l).length = l.length + 5 + Lib.nDigits l.length := by
  simp [enc, Lib.decDigits_length]; omega
theorem enc_range {l : List Int} (h : ∀ x ∈ l, 0 ≤ x ∧ x ≤ 255) : ∀ x ∈ enc l, 0 ≤ x ∧ x ≤ 255 := by
  intro x hx
  unfold enc at hx
  simp only [List.mem_append, List.mem_cons, List.not_mem_nil, or_false, List.mem_map] at hx
  rcases hx with (((rfl | ⟨b, _, rfl⟩) | (rfl | rfl)) | hx) | (rfl | rfl)
  · omega
  · have := b.toNat_lt; omega
  · omega
  · omega
  · exact h x hx
  · omega
  · omega
theorem tot_range {L : List (List Int)} (h : ∀ l ∈ L, ∀ x ∈ l, 0 ≤ x ∧ x ≤ 255) : ∀ x ∈ tot L, 0 ≤ x ∧ x ≤ 255 := by
  intro x hx
  obtain ⟨e, he, hx⟩ := List.mem_flatten.1 hx
  obtain ⟨l, hl, rfl⟩ := List.mem_map.1 he
  exact enc_range (h l hl) x hx
theorem tot_succ (L : List (List Int)) (k : Nat) (l : List Int) (h : L[k]? = some l) : tot (L.take (k + 1)) = tot (L.take k) ++ enc l := by
  have hk : k < L.length := (List.getElem?_eq_some_iff.1 h).1
  have e : L[k] = l := (List.getElem?_eq_some_iff.1 h).2
  unfold tot
  rw [List.take_succ_eq_append_getElem hk, e]; simp
theorem cells_succ (L : List (List Int)) (k : Nat) (l : List Int) (h : L[k]? = some l) : cells (tot (L.take (k + 1))) = cells (tot (L.take k)) ++ hdr l.length ++ cells l ++ [.int .u8 13, .int .u8 10] := by
  rw [tot_succ L k l h, cells_append, cells_enc]; simp
theorem tot_len : ∀ (L : List (List Int)), sumLen L ≤ 1048576 → (tot L).length ≤ 24 * L.length + sumLen L
  | [], _ => by simp [tot, sumLen]
  | l :: L, h => by
    have h' : sumLen (l :: L) = l.length + sumLen L := by simp [sumLen]
    have := tot_len L (by omega)
    have e : tot (l :: L) = enc l ++ tot L := by simp [tot]
    have hd := nDigits_le 6 l.length (by omega)
    rw [e, List.length_append, enc_length, h', List.length_cons]
    omega
theorem tot_take_len (L : List (List Int)) (k : Nat) : (tot (L.take k)).length ≤ (tot L).length := by
  have : tot L = tot (L.take k) ++ tot (L.drop k) := by
    unfold tot
    rw [← List.flatten_append, ← List.map_append, List.take_append_drop]
  rw [this, List.length_append]; omega

/-- The frame that the second law keeps: the tape left aside. -/
structure Kept (w w' : World) : Prop where
  os : w'.os = w.os
  output : w'.output = w.output
  size : w.heap.size ≤ w'.heap.size
  block : ∀ k, k < w.heap.size → w'.heap[k]? = w.heap[k]?
theorem Kept.refl (w : World) : Kept w w := ⟨rfl, rfl, Nat.le_refl _, fun _ _ => rfl⟩
theorem Kept.trans {w w' w'' : World} (h : Kept w w') (h' : Kept w' w'') : Kept w w'' :=
  ⟨h'.os.trans h.os, h'.output.trans h.output, Nat.le_trans h.size h'.size, fun k hk => (h'.block k (Nat.lt_of_lt_of_le hk h.size)).trans (h.block k hk)⟩
theorem Kept.of {w w' : World} (h : Below w.heap.size w w') : Kept w w' := ⟨h.os, h.output, h.size, h.block⟩
theorem Kept.drewN {w w' : World} (h : Kept w w') (n : Nat) : Kept w (w'.drewN n) := ⟨h.os, h.output, h.size, h.block⟩

/-- The table, by its block. -/
theorem tab_block {w : World} {name : String} {k : IntKind} {zs : List Int} (h : Lib.TabIs Tryd.prog w name k zs) : ∃ g, g < w.heap.size ∧ ∀ w' : World, w'.heap[g]? = w.heap[g]? → Lib.TabIs Tryd.prog w' name k zs := by
  unfold Lib.TabIs World.var? at *
  cases hg : Tryd.prog.globalNamed name with
  | none => simp [hg] at h
  | some g =>
    simp only [hg, Option.bind_some] at h ⊢
    have hlt : g < w.heap.size := by
      rcases Nat.lt_or_ge g w.heap.size with h' | h'
      · exact h'
      · rw [Array.getElem?_eq_none h'] at h; simp at h
    exact ⟨g, hlt, fun w' e => by rw [e]; exact h⟩
theorem Kept.tab {w w' : World} (h : Kept w w') {name : String} {k : IntKind} {zs : List Int} (ht : Lib.TabIs Tryd.prog w name k zs) : Lib.TabIs Tryd.prog w' name k zs := by
  obtain ⟨g, hg, hw⟩ := tab_block ht
  exact hw w' (h.block g hg)

theorem cold_sink (w1 : World) {k : Nat} (h1 : k ≠ w1.heap.size) (h2 : k ≠ w1.heap.size + 1) (h3 : k ≠ w1.heap.size + 2) : Cold w1.heap.size (w1.heap.size + 1) (w1.heap.size + 2) (.slice none 0 0) k := ⟨h1, h2, h3, by simp [Value.ownBlock]⟩

/-- A sink laid in w1, and C written to it. -/
abbrev Wrt (w1 : World) (C : List Value) (wr : World) : Prop := DoneM w1.heap.size (w1.heap.size + 1) (w1.heap.size + 2) C (.slice none 0 0) (sinkW w1) wr
theorem Wrt.start (w1 : World) : Wrt w1 [] (sinkW w1) := ⟨[], [], _, rfl, sinkW_sink w1, Mv.refl _ _ _ _ _⟩

theorem Wrt.kept {w1 : World} {C : List Value} {wr : World} (h : Wrt w1 C wr) : Kept w1 wr := by
  obtain ⟨_, _, _, _, _, hM⟩ := h
  have hsz := sinkW_size w1
  exact ⟨hM.os, hM.output, by have := hM.size; omega, fun k hk => (hM.block k (by omega) (cold_sink w1 (by omega) (by omega) (by omega))).trans (sinkW_old w1 k hk)⟩

theorem wbulk_step (w1 : World) (L : List (List Int)) (k : Nat) (l : List Int) (a : Option Addr) (n c : Nat) (wr : World) (h : Wrt w1 (cells (tot (L.take k))) wr) (hl : L[k]? = some l) (hu : BytesAt w1 (.slice a n c) l) (hn : n ≤ 1048576) (hT : (tot L).length ≤ 1048576) (ht : Lib.TabIs Tryd.prog w1 "internal/strconv.uint64pow10" .u64 Lib.pow10Tab) :
    Calls Tryd.prog 9 #[.pointer (some ⟨w1.heap.size + 3, 0, none⟩), .slice a n c] wr fun e w' => e = .returned (.tuple #[]) ∧ Wrt w1 (cells (tot (L.take (k + 1)))) w' := by
  have hK := h.kept
  have hxat := h.at (sinkW_3 w1) (cold_sink w1 (by omega) (by omega) (by omega))
  obtain ⟨bs, pend, v', hs, hS, hM⟩ := h
  have hsz := sinkW_size w1
  have hlen := congrArg List.length hs
  rw [List.length_append, cells_length] at hlen
  have htl := tot_take_len L k
  have hln : l.length = n := by obtain ⟨_, _, _, e, q, _⟩ := hu; injection e with _ e2; omega
  have hcold : ∀ k, k < w1.heap.size → Cold w1.heap.size (w1.heap.size + 1) (w1.heap.size + 2) v' k := fun k hk => hM.cold (by omega) (cold_sink w1 (by omega) (by omega) (by omega))
  obtain ⟨g, hg, htab⟩ := tab_block ht
  have hok : TabOk wr (w1.heap.size + 1) := fun w' hk => htab w' ((hk.block (Nat.lt_of_lt_of_le hg hK.size) (fun p hp e => by omega)).trans (hK.block g hg))
  have hc : n ≠ 0 → ∀ k o, a = some ⟨k, o, none⟩ → Cold w1.heap.size (w1.heap.size + 1) (w1.heap.size + 2) v' k := by
    intro h0 k o e
    obtain ⟨a', n', c', e', q1, q2, q3, q4, q5⟩ := hu
    injection e' with e1 e2 e3
    subst e1 e2 e3
    obtain ⟨x0, hx0⟩ : ∃ x, l[0]? = some x := ⟨_, List.getElem?_eq_getElem (by omega)⟩
    obtain ⟨_, _, b', o', e', hcell⟩ := q5 0 x0 hx0
    rw [e] at e'
    injection e' with e'; injection e' with e1 e2; subst e1 e2
    exact hcold k (World.block_lt_of_cell? w1 _ hcell)
  refine (bulk_any w1.heap.size (w1.heap.size + 1) (w1.heap.size + 2) (w1.heap.size + 3) bs pend v' wr hS hxat (hM.cold (by omega) (cold_sink w1 (by omega) (by omega) (by omega))) hok a n c hn (by omega) l (hu.same hK.block) hc).mono ?_
  rintro e w' ⟨rfl, bs', pend', v'', q1, q2, q3⟩
  refine ⟨rfl, bs', pend', v'', ?_, q2, hM.trans q3⟩
  rw [q1, hs, cells_succ L k l hl, hln]

theorem sinkBytes_m (w1 : World) (fl : List Int) (w2 : World) (hfl : fl.length ≤ 1048576) (hr : ∀ x ∈ fl, 0 ≤ x ∧ x ≤ 255) (h : Wrt w1 (cells fl) w2) :
    Calls Tryd.prog 10 #[.pointer (some ⟨w1.heap.size + 4, 0, none⟩)] w2 fun e w' => ∃ v', e = .returned v' ∧ BytesAt w' v' fl ∧ Kept w1 w' := by
  have hK := h.kept
  have hx3 := h.at (sinkW_3 w1) (cold_sink w1 (by omega) (by omega) (by omega))
  have hx4 := h.at (sinkW_4 w1) (cold_sink w1 (by omega) (by omega) (by omega))
  obtain ⟨bs, pend, v, hsum, hS, hM⟩ := h
  have hsz := sinkW_size w1
  have hlen := congrArg List.length hsum
  rw [List.length_append, cells_length] at hlen
  refine (sinkBytes_any w1.heap.size (w1.heap.size + 1) (w1.heap.size + 2) (w1.heap.size + 3) (w1.heap.size + 4) bs pend v w2 hS (by omega) hx4 hx3).mono ?_
  rintro e w' ⟨v', rfl, hB, hM2⟩
  have hM3 := hM.trans hM2.mv
  refine ⟨v', rfl, ?_, ⟨hM3.os, hM3.output, by have := hM3.size; omega, fun k hk => (hM3.block k (by omega) (cold_sink w1 (by omega) (by omega) (by omega))).trans (sinkW_old w1 k hk)⟩⟩
  rw [hsum] at hB
  rcases hB.row with ⟨rfl, h0⟩ | ⟨g, cap, cur, rfl, _, hg, h1, h2, h3, h4, _⟩
  · obtain rfl : fl = [] := by have := congrArg List.length h0; rw [cells_length] at this; exact List.eq_nil_of_length_eq_zero this
    exact BytesAt.nil w'
  · rw [cells_length] at h1 h4 ⊢
    refine ⟨_, _, _, rfl, rfl, h1, h2, (fun h => by cases h), fun j x hj => ⟨(hr x (List.mem_of_getElem? hj)).1, (hr x (List.mem_of_getElem? hj)).2, g, 0, rfl, ?_⟩⟩
    have hj' : (cells fl)[j]? = some (.int .u8 x) := by simp [cells, hj]
    rw [← h4, List.getElem?_take] at hj'
    rw [Nat.zero_add]
    split at hj'
    · rw [Lib.cell_of_heap hg, ← Array.getElem?_toList]; exact hj'
    · cases hj'

theorem rbulk_step (w1 : World) (r : Nat) (L : List (List Int)) (k : Nat) (l : List Int) (a : Option Addr) (n c : Nat) (wr : World) (h : Filled w1 r (cells (tot (L.take k))) (tot (L.take k)).length k wr) (hl : L[k]? = some l) (hu : BytesAt w1 (.slice a n c) l) (hn : n ≤ 1048576) (hk : k ≤ 1048576) (hT : (tot L).length ≤ 1048576) (ht : Lib.TabIs Tryd.prog w1 "internal/strconv.uint64pow10" .u64 Lib.pow10Tab) :
    Calls Tryd.prog 11 #[.pointer (some ⟨r, 0, none⟩), .slice a n c] wr fun e w' => e = .returned (.tuple #[]) ∧ Filled w1 r (cells (tot (L.take (k + 1)))) (tot (L.take (k + 1))).length (k + 1) w' := by
  have htl := tot_take_len L k
  have hln : l.length = n := by obtain ⟨_, _, _, e, q, _⟩ := hu; injection e with _ e2; omega
  refine (rbulk_any w1 r _ _ k wr h a n c l hu hn (by omega) hk ht).mono ?_
  rintro e w' ⟨he, hF⟩
  refine ⟨he, ?_⟩
  rw [cells_succ L k l hl, hln]
  have : (tot (L.take (k + 1))).length = (tot (L.take k)).length + (hdr n).length + l.length + 2 := by
    rw [tot_succ L k l hl, List.length_append, ← cells_length (enc l), cells_enc]
    simp only [List.length_append, cells_length, hln, List.length_cons, List.length_nil]; omega
  rw [this]; exact hF

theorem reply_filled (w1 : World) (r : Nat) (C : List Value) (N M : Nat) (wr : World) (h : Filled w1 r C N M wr) (hN : N ≤ 2097152) (hM : M ≤ 1048576) :
    Calls Tryd.prog 12 #[.pointer (some ⟨wr.heap.size + 3, 0, none⟩), .pointer (some ⟨r, 0, none⟩)] (sinkW wr) fun e w' => e = .returned (.tuple #[]) ∧ Wrt wr C w' := by
  obtain ⟨hbel, T, tv, rv, G, hR, hG, hri, hTl, ho, hGl, hp⟩ := h
  rw [← hp]
  refine (reply_whole w1.heap.size r T tv rv G w1 wr hR hbel hG hri (by omega) ho (by omega)).mono ?_
  rintro e w' ⟨he, bs, pend, v, q1, q2, q3⟩
  exact ⟨he, bs, pend, v, q1, q2, q3.mv⟩
end Go.Proofs.Qxb6614495aDoor
