/-
  (*Reply).Bulk.
-/
import Derived.Test.Qxb6614495aDoorRHead
import Derived.Test.Qxb6614495aDoorSteps
namespace Go.Proofs.Qxb6614495aDoor
open Go.RowKit Go.Shelf

theorem own_others {w w1 : World} {B n size : Nat} {e : TypeId} {v : Value} {xs : List Value} (h : w.ownsRow B e size v n xs) (he : e ≠ 5) (hk : Lib.OthersKept 5 none w w1) : w1.ownsRow B e size v n xs := by
  refine ⟨h.1, ?_⟩
  rcases h.2 with h | ⟨g, cap, cur, e1, hb, hg, rest⟩
  · exact .inl h
  · exact .inr ⟨g, cap, cur, e1, hb, hk g _ hg (by simp) (fun c fz e2 => he (by injection e2)), rest⟩

/-- The text's new value is stored, behind a callee that kept all but rows of bytes. -/
theorem Rep.head_end {B r : Nat} {T T' : List Value} {F : List (Nat × Value)} {tv tv' rv : Value} {w w1 : World} (h : Rep B r T F tv rv w) (hown : w1.ownsRow B 5 1 tv' T'.length T') (hb : Below B w w1) (hk : Lib.OthersKept 5 none w w1) :
    w1.cell? ⟨r, 0, none⟩ = some tv ∧ w1.frozen? ⟨r, 0, none⟩ = false ∧ Rep B r T' F tv' rv (w1.setCell ⟨r, 0, none⟩ tv') ∧ Below B w (w1.setCell ⟨r, 0, none⟩ tv') := by
  have hb1 : w1.heap[r]? = some (.cells #[tv, rv] 34 (0, 0)) := hk r _ h.blk (by simp) (fun c fz e2 => by injection e2 with _ e3; revert e3; decide)
  have hrefs : w1.ownsRow B 62 2 rv F.length (flat F) := own_others h.refs (by decide) hk
  refine ⟨by rw [Lib.cell_of_heap hb1]; rfl, Lib.frozen_of_heap hb1 0, ⟨heap_setCell_same w1 r 0 _ _ _ hb1, own_setCell hown (own_ne hown hb1 (by decide)) _, own_setCell hrefs (own_ne hrefs hb1 (by decide)) _, by simpa using Nat.le_trans h.le hb.size, h.ler⟩, hb.setCell (p := ⟨r, 0, none⟩) h.ler _⟩

/-- A Reply in r that holds the cells C: N bounds its text, M its references. -/
structure Filled (w1 : World) (r : Nat) (C : List Value) (N M : Nat) (wr : World) : Prop where
  bel : Below w1.heap.size w1 wr
  rep : ∃ (T : List Value) (tv rv : Value) (G : List (Nat × Value × List Int)), Rep w1.heap.size r T (G.map fun g => (g.1, g.2.1)) tv rv wr ∧ (∀ g ∈ G, BytesAt w1 g.2.1 g.2.2 ∧ 512 ≤ g.2.2.length ∧ g.2.2.length ≤ 2097152) ∧ rising T.length 0 (G.map (·.1)) ∧
    T.length ≤ N ∧ (∀ u ∈ T, u.oneCell' = true) ∧ G.length ≤ M ∧ parts T 0 (G.map fun g => (g.1, cells g.2.2)) = C

theorem Filled.start (w1 : World) : Filled w1 w1.heap.size [] 0 0 (w1.alloc (.cells #[.slice none 0 0, .slice none 0 0] 34)) := by
  refine ⟨(Below.refl _ w1).alloc (Nat.le_refl _) _, [], _, _, [], ⟨heap_alloc_new w1 _, ⟨rfl, .inl ⟨rfl, rfl⟩⟩, ⟨rfl, .inl ⟨rfl, rfl⟩⟩, by simp, Nat.le_refl _⟩, fun g hg => (by cases hg), Nat.le_refl _, Nat.zero_le _, fun u hu => (by cases hu), Nat.le_refl _, ?_⟩
  simp [parts]

/-- Filled, its text's value laid open. -/
structure FilledAt (w1 : World) (r : Nat) (C : List Value) (N M : Nat) (T : List Value) (tv : Value) (wr : World) : Prop where
  cell : wr.cell? ⟨r, 0, none⟩ = some tv
  froz : wr.frozen? ⟨r, 0, none⟩ = false
  own : wr.ownsRow w1.heap.size 5 1 tv T.length T
  le : w1.heap.size ≤ wr.heap.size
  len : T.length ≤ N
  bel : Below w1.heap.size w1 wr
  shape : ∃ a c, tv = .slice a T.length c
  more : ∀ X tv' w', (∀ u ∈ X, u.oneCell' = true) → w'.ownsRow w1.heap.size 5 1 tv' (T.length + X.length) (T ++ X) → Below w1.heap.size wr w' → Lib.OthersKept 5 none wr w' → w'.cell? ⟨r, 0, none⟩ = some tv ∧ w'.frozen? ⟨r, 0, none⟩ = false ∧ (∃ a c, tv' = .slice a (T.length + X.length) c) ∧ Filled w1 r (C ++ X) (N + X.length) M (w'.setCell ⟨r, 0, none⟩ tv')

theorem Filled.at {w1 : World} {r : Nat} {C : List Value} {N M : Nat} {wr : World} (h : Filled w1 r C N M wr) : ∃ T tv, FilledAt w1 r C N M T tv wr := by
  obtain ⟨hbel, T, tv, rv, G, hR, hG, hri, hTl, ho, hGl, hp⟩ := h
  have hri' : rising T.length 0 ((G.map fun g => (g.1, cells g.2.2)).map (·.1)) := by rw [List.map_map]; exact hri
  refine ⟨T, tv, by rw [Lib.cell_of_heap hR.blk]; rfl, Lib.frozen_of_heap hR.blk 0, hR.text, hR.le, hTl, hbel, ?_, fun X tv' w' hX hown hb hk => ?_⟩
  · obtain ⟨a, c, e, _⟩ := own_shape hR.text; exact ⟨a, c, e⟩
  · obtain ⟨q1, q2, q3, q4⟩ := hR.head_end (T' := T ++ X) (by rw [List.length_append]; exact hown) hb hk
    obtain ⟨a, c, e, _⟩ := own_shape hown
    refine ⟨q1, q2, ⟨a, c, e⟩, hbel.trans q4, T ++ X, tv', rv, G, q3, hG, rising_mono (by simp) hri, by rw [List.length_append]; omega, fun u hu => ?_, hGl, ?_⟩
    · rcases List.mem_append.1 hu with hu | hu
      · exact ho u hu
      · exact hX u hu
    · rw [parts_text T X 0 _ hri', hp]

theorem Filled.add {w1 : World} {r : Nat} {C : List Value} {N M : Nat} {wr : World} (h : Filled w1 r C N M wr) (l : List Int) (u : Value) (hu : BytesAt w1 u l) (hl : l.length ≤ 1048576) (hN : N ≤ 1099511627776) (hM : M ≤ 1048576) :
    Calls Tryd.prog 16 #[.pointer (some ⟨r, 0, none⟩), u] wr fun e w' => e = .returned (.tuple #[]) ∧ Filled w1 r (C ++ cells l) (N + l.length) (M + 1) w' := by
  obtain ⟨hbel, T, tv, rv, G, hR, hG, hri, hTl, ho, hGl, hp⟩ := h
  have hri' : rising T.length 0 ((G.map fun g => (g.1, cells g.2.2)).map (·.1)) := by rw [List.map_map]; exact hri
  by_cases hsh : l.length < 512
  · refine (add_short w1.heap.size r T _ tv rv wr hR l u (hu.same hbel.block) hsh (by omega)).mono ?_
    rintro e w' ⟨rfl, tv', hR', hB'⟩
    refine ⟨rfl, hbel.trans hB', T ++ cells l, tv', rv, G, hR', hG, rising_mono (by simp) hri, ?_, ?_, by omega, ?_⟩
    · rw [List.length_append, cells_length]; omega
    · intro q hq
      rcases List.mem_append.1 hq with hq | hq
      · exact ho q hq
      · exact cells_one l q hq
    · rw [parts_text T (cells l) 0 _ hri', hp]
  · obtain ⟨a, n, c, rfl, q1, q2, q3, q4, q5⟩ := hu
    have hu : BytesAt w1 (.slice a n c) l := ⟨a, n, c, rfl, q1, q2, q3, q4, q5⟩
    refine (add_long w1.heap.size r T _ tv rv wr hR a n c (by omega) (by unfold maxLen at q3; omega) (by rw [List.length_map]; omega)).mono ?_
    rintro e w' ⟨rfl, rv', hR', hB'⟩
    refine ⟨rfl, hbel.trans hB', T, tv, rv', G ++ [(T.length, .slice a n c, l)], ?_, ?_, ?_, by omega, ho, by simp; omega, ?_⟩
    · rw [List.map_append]; exact hR'
    · intro g hg
      rcases List.mem_append.1 hg with hg | hg
      · exact hG g hg
      · rw [List.mem_singleton] at hg; subst hg; exact ⟨hu, by simp only; omega, by simp only; omega⟩
    · rw [List.map_append]; exact rising_snoc hri
    · rw [List.map_append, List.map_cons, List.map_nil, parts_ref T (cells l) 0 _ hri', hp]

theorem hdr_one' (n : Nat) : ∀ x ∈ hdr n, x.oneCell' = true := by
  intro x hx
  unfold hdr at hx
  simp only [List.mem_append, List.mem_cons, List.not_mem_nil, or_false] at hx
  rcases hx with (rfl | hx) | (rfl | rfl)
  · rfl
  · obtain ⟨y, _, rfl⟩ := List.mem_map.1 hx; rfl
  · rfl
  · rfl

set_option maxHeartbeats 4000000 in
set_option maxRecDepth 100000 in
theorem rbulk_any (w1 : World) (r : Nat) (C : List Value) (N M : Nat) (wr : World) (h : Filled w1 r C N M wr) (a : Option Addr) (n c : Nat) (l : List Int) (hu : BytesAt w1 (.slice a n c) l) (hl : n ≤ 1048576) (hN : N ≤ 1073741824) (hM : M ≤ 1048576) (ht : Lib.TabIs Tryd.prog w1 "internal/strconv.uint64pow10" .u64 Lib.pow10Tab) :
    Calls Tryd.prog 11 #[.pointer (some ⟨r, 0, none⟩), .slice a n c] wr fun e w' => e = .returned (.tuple #[]) ∧ Filled w1 r (C ++ hdr n ++ cells l ++ [.int .u8 13, .int .u8 10]) (N + (hdr n).length + l.length + 2) (M + 1) w' := by
  obtain ⟨i0, hi, hz0, hz1, hz2⟩ := info_parts info5c
  have hln : l.length = n := by obtain ⟨_, _, _, e, q, _⟩ := hu; injection e with _ e2; omega
  have hdl : (hdr n).length ≤ 30 := by
    have h1 := Lib.nDigits_le20 n (by omega)
    simp [hdr, Lib.byteCells, Lib.decDigits_length]
    omega
  obtain ⟨T, tv, hT⟩ := h.at
  have hh := header_own w1.heap.size T.length tv T wr hT.own hT.le n hl (by have := hT.len; omega) ((Lib.tabBelow_of_tabIs ht).on hT.bel)
  have hmore := hT.more (hdr n)
  obtain ⟨H, HH⟩ : ∃ H, Hid (hdr n = H) := ⟨_, rfl⟩
  have hH1 : ∀ u ∈ H, u.oneCell' = true := by have := HH.out; subst this; exact hdr_one' n
  rw [HH.out] at hh hmore hdl ⊢
  have HA : Hid (∀ w', Filled w1 r (C ++ H) (N + H.length) M w' → Calls Tryd.prog 16 #[.pointer (some ⟨r, 0, none⟩), .slice a n c] w' fun e w'' => e = .returned (.tuple #[]) ∧ Filled w1 r (C ++ H ++ cells l) (N + H.length + l.length) (M + 1) w'') := fun w' hF => hF.add l _ hu (by omega) (by omega) hM
  have c0 := hT.cell
  obtain ⟨ta, tc, rfl⟩ := hT.shape
  have hh2 : Calls Tryd.prog 19 #[.slice ta T.length tc, .int .u8 36, .int .i64 n] wr fun e w' => ∃ va vm vc, e = .returned (.slice va vm vc) ∧ w'.cell? ⟨r, 0, none⟩ = some (.slice ta T.length tc) ∧ w'.frozen? ⟨r, 0, none⟩ = false ∧ Hid (Filled w1 r (C ++ H) (N + H.length) M (w'.setCell ⟨r, 0, none⟩ (.slice va vm vc))) := by
    refine hh.mono ?_
    rintro e w' ⟨v', rfl, q1, q2, q3⟩
    obtain ⟨p1, p2, ⟨a', c', rfl⟩, p4⟩ := hmore v' w' hH1 q1 q2 q3
    exact ⟨a', _, c', rfl, p1, p2, p4⟩
  clear hh hmore hT h hu ht HH hH1
  go_enter Tryd.func11, Tryd.ntmps11
  go_wp2_with (first
    | (go_at_call 19; refine hh2.mono ?_; rintro e w2 ⟨va, vm, vc, rfl, d0, df, HF⟩)
    | (go_at_call 16; refine (HA.out _ HF.out).mono ?_; rintro e w3 ⟨rfl, hF3⟩; refine Hid.out ?_))
  refine Lib.hid ?_
  clear HA HF hh2 c0 d0 df
  obtain ⟨T3, tv3, hT3⟩ := hF3.at
  have c3 := hT3.cell
  obtain ⟨ta3, tc3, rfl⟩ := hT3.shape
  have hl3 := hT3.len
  have HT3 : Hid (FilledAt w1 r (C ++ H ++ cells l) (N + H.length + l.length) (M + 1) T3 (.slice ta3 T3.length tc3) w3) := hT3
  clear hT3 hF3
  have HEND : Hid (∀ v' w4, w4.ownsRow w1.heap.size 5 1 v' (T3.length + 2) (T3 ++ [.int .u8 13, .int .u8 10]) → (w3.alloc (.cells #[.int .u8 13, .int .u8 10] 5)).grownBy w4 (Value.slice ta3 T3.length tc3).ownBlock → (∃ va vc, v' = .slice va (T3.length + 2) vc) ∧ w4.cell? ⟨r, 0, none⟩ = some (.slice ta3 T3.length tc3) ∧ w4.frozen? ⟨r, 0, none⟩ = false ∧
      Hid (Filled w1 r (C ++ H ++ cells l ++ [.int .u8 13, .int .u8 10]) (N + H.length + l.length + 2) (M + 1) (w4.setCell ⟨r, 0, none⟩ v'))) := by
    intro v' w4 hown hg
    have hle := HT3.out.le
    have hb : Below w1.heap.size w3 w4 := ((Below.refl w1.heap.size w3).alloc hle _).grown hg (by simp; omega) (fun k hk => (HT3.out.own.lt k hk).1)
    have hk : Lib.OthersKept 5 none w3 w4 := ((Lib.OthersKept.refl 5 none w3).alloc _).grown hg (own_kind (HT3.out.own.alloc _))
    obtain ⟨p1, p2, p3, p4⟩ := HT3.out.more [.int .u8 13, .int .u8 10] v' w4 (by intro u' hu'; simp at hu'; rcases hu' with rfl | rfl <;> rfl) hown hb hk
    exact ⟨p3, p1, p2, p4⟩
  go_wp2_with (at_builtin; refine wpList_append_own _ rfl _ _ _ rfl w1.heap.size 5 i0 (.int .u8 0) 1 1 Tryd.underlying24 hi hz0 hz1 hz2 rfl (by decide) (.slice ta3 T3.length tc3) T3.length T3 rfl (HT3.out.own.alloc _) ⟨w3.heap.size, 0, none⟩ 2 2 [Value.int .u8 13, Value.int .u8 10] rfl rfl (by intro j u' hj; match j, hj with | 0, hj => simp at hj; subst hj; simp [Addr.add] | 1, hj => simp at hj; subst hj; simp [Addr.add]) (by intro u' hu'; simp at hu'; rcases hu' with rfl | rfl <;> rfl) (by unfold maxLen; omega) (by omega) (by have := HT3.out.le; simp; omega) ?_; intro v' w4 hown hg hni; obtain ⟨⟨va, vc, hv⟩, d0, df, HE⟩ := HEND.out v' w4 hown hg; clear hown hg hni HEND; rw [hv] at HE ⊢)
  go_end0
  exact ⟨rfl, HE.out⟩
end Go.Proofs.Qxb6614495aDoor
