/-
  (*Reply).Add.
-/
import Derived.Test.Qxb6614495aDoorClone
import Derived.Maps.AppendAt
import Derived.Deep.AppendLies
import Derived.Deep.RegionHeld3
import Derived.Deep.RegionLaw
import Derived.Deep.DrawnRows
import Derived.Laws.AppendOwnNone
import Derived.Lib.Hide
namespace Go.Proofs.Qxb6614495aDoor
open Go.RowKit
attribute [local go_sem ↓] Go.wp_at_zero Go.wp_at_succ

theorem info62 : (Tryd.prog.info? 62).map (fun i => (i.zero, i.size, i.bytes)) = some (some (.agg #[.int .i64 0, .slice none 0 0]), 2, 32) := by kernel_rfl

/-- The cells of the references. -/
def flat (F : List (Nat × Value)) : List Value := F.flatMap fun p => [.int .i64 (p.1 : Nat), p.2]
theorem flat_append (F G : List (Nat × Value)) : flat (F ++ G) = flat F ++ flat G := by simp [flat]
theorem flat_length (F : List (Nat × Value)) : (flat F).length = F.length * 2 := by
  induction F with
  | nil => rfl
  | cons p F ih =>
    have : flat (p :: F) = [.int .i64 (p.1 : Nat), p.2] ++ flat F := rfl
    rw [this, List.length_append, ih]; simp; omega

/-- A Reply in block r: its text T, its references F; all that it owns lies from B on. -/
structure Rep (B r : Nat) (T : List Value) (F : List (Nat × Value)) (tv rv : Value) (w : World) : Prop where
  blk : w.heap[r]? = some (.cells #[tv, rv] 34 (0, 0))
  text : w.ownsRow B 5 1 tv T.length T
  refs : w.ownsRow B 62 2 rv F.length (flat F)
  le : B ≤ w.heap.size
  ler : B ≤ r

theorem own_ne {w : World} {B n size : Nat} {e T : TypeId} {v : Value} {xs : List Value} {b : Nat} {cs : Array Value} {fr : Nat × Nat} (hown : w.ownsRow B e size v n xs) (hb : w.heap[b]? = some (.cells cs T fr)) (hTe : T ≠ e) : v.ownBlock ≠ some b := by
  rcases hown.2 with ⟨rfl, _⟩ | ⟨g, cap, cur, rfl, _, hg, _⟩
  · simp [Value.ownBlock]
  · simp only [Value.ownBlock, ne_eq, Option.some.injEq]
    intro e1
    rw [e1, hb] at hg
    have := congrArg (fun o => match o with | some (Obj.cells _ t _) => t | _ => 0) hg
    exact hTe this
theorem own_ne2 {w : World} {B n size n' size' : Nat} {e e' : TypeId} {v v' : Value} {xs xs' : List Value} (h : w.ownsRow B e size v n xs) (h' : w.ownsRow B e' size' v' n' xs') (hne : e ≠ e') : v'.ownBlock = none ∨ v'.ownBlock ≠ v.ownBlock := by
  rcases h'.2 with ⟨rfl, _⟩ | ⟨g, cap, cur, rfl, _, hg, _⟩
  · exact .inl rfl
  · refine .inr fun e1 => own_ne h hg (Ne.symm hne) ?_
    rw [← e1]; rfl
theorem own_setCell {w : World} {B n size : Nat} {e : TypeId} {v : Value} {xs : List Value} (h : w.ownsRow B e size v n xs) {a : Addr} (ha : v.ownBlock ≠ some a.block) (u : Value) : (w.setCell a u).ownsRow B e size v n xs := by
  refine ⟨h.1, ?_⟩
  rcases h.2 with hn | ⟨g, cap, cur, rfl, hb, hg, rest⟩
  · exact .inl hn
  · refine .inr ⟨g, cap, cur, rfl, hb, ?_, rest⟩
    rw [Below.heap_setCell _ _ _ _ (fun e => ha (by simp [Value.ownBlock, e]))]; exact hg
theorem own_shape {w : World} {B n size : Nat} {e : TypeId} {v : Value} {xs : List Value} (h : w.ownsRow B e size v n xs) : ∃ a c, v = .slice a n c ∧ n ≤ c ∧ c ≤ maxLen := by
  rcases h.2 with ⟨rfl, rfl⟩ | ⟨g, cap, cur, rfl, _, _, h1, h2, _⟩
  · exact ⟨none, 0, rfl, Nat.le_refl _, Nat.zero_le _⟩
  · exact ⟨_, cap, rfl, h1, h2⟩

/-- The text's new value is stored. -/
theorem Rep.text_end {B r : Nat} {T T' : List Value} {F : List (Nat × Value)} {tv tv' rv : Value} {w w1 : World} (h : Rep B r T F tv rv w) (hown : w1.ownsRow B 5 1 tv' T'.length T') (hg : w.grownBy w1 tv.ownBlock) :
    Rep B r T' F tv' rv (w1.setCell ⟨r, 0, none⟩ tv') ∧ Below B w (w1.setCell ⟨r, 0, none⟩ tv') := by
  have hrl : r < w.heap.size := (Array.getElem?_eq_some_iff.1 h.blk).1
  have hb1 : w1.heap[r]? = some (.cells #[tv, rv] 34 (0, 0)) := (hg.block r hrl (Ne.symm (own_ne h.text h.blk (by decide)))).trans h.blk
  have hrefs : w1.ownsRow B 62 2 rv F.length (flat F) := h.refs.kept hg (own_ne2 h.text h.refs (by decide))
  have hB : Below B w w1 := (Below.refl B w).grown hg h.le (fun k e => by
    rcases h.text.2 with ⟨rfl, _⟩ | ⟨g, cap, cur, rfl, hb, _⟩
    · simp [Value.ownBlock] at e
    · simp [Value.ownBlock] at e; omega)
  refine ⟨⟨heap_setCell_same w1 r 0 _ _ _ hb1, own_setCell hown (own_ne hown hb1 (by decide)) _, own_setCell hrefs (own_ne hrefs hb1 (by decide)) _, by simpa using Nat.le_trans h.le hg.size, h.ler⟩, hB.setCell (p := ⟨r, 0, none⟩) h.ler _⟩

set_option maxHeartbeats 4000000 in
set_option maxRecDepth 100000 in
/-- Add, of a short piece. -/
theorem add_short (B r : Nat) (T : List Value) (F : List (Nat × Value)) (tv rv : Value) (w : World) (h : Rep B r T F tv rv w) (l : List Int) (u : Value) (hu : BytesAt w u l) (hshort : l.length < 512) (hlim : T.length + l.length ≤ 70368744177664) :
    Calls Tryd.prog 16 #[.pointer (some ⟨r, 0, none⟩), u] w fun e w' => e = .returned (.tuple #[]) ∧ ∃ tv', Rep B r (T ++ cells l) F tv' rv w' ∧ Below B w w' := by
  obtain ⟨a, n, c, rfl, hl, hnc, hcm, hnz, hB⟩ := hu
  have c0 : w.cell? ⟨r, 0, none⟩ = some tv := by rw [Lib.cell_of_heap h.blk]; rfl
  have f0 : w.frozen? ⟨r, 0, none⟩ = false := Lib.frozen_of_heap h.blk 0
  have hn512 : (n : Int) < 512 := by omega
  obtain ⟨i0, hi, hz0, hz1, hz2⟩ := info_parts info5c
  unfold maxLen at hcm
  have HR : Hid (Rep B r T F tv rv w) := h
  cases a with
  | none =>
    have hl0 : l = [] := by
      cases l with
      | nil => rfl
      | cons x l => obtain ⟨_, _, _, _, e, _⟩ := hB 0 x rfl; cases e
    subst hl0
    obtain rfl : n = 0 := by simpa using hl.symm
    obtain rfl : c = 0 := hnz rfl
    obtain ⟨ta, tc, rfl, htc, htm⟩ := own_shape h.text
    clear h hB hnz
    go_enter Tryd.func16, Tryd.ntmps16
    go_wp2_with (at_builtin; refine wpList_append_own_none rfl _ _ _ rfl B 5 i0 1 Tryd.underlying24 hi (.slice ta T.length tc) T.length T rfl HR.out.text rfl ?_)
    refine bodyPost_ret (results_none rfl _ _ _) rfl ?_
    refine ⟨rfl, .slice ta T.length tc, ?_⟩
    have hq := HR.out.text_end (T' := T) HR.out.text ⟨rfl, rfl, rfl, Nat.le_refl _, fun _ _ _ => rfl⟩
    have : T ++ cells [] = T := by simp [cells]
    rw [this]; exact hq
  | some a =>
    have hsrc : ∀ j u, (cells l)[j]? = some u → w.cell? (a.add j) = some u := by
      intro j u hu
      obtain ⟨x, hx, rfl⟩ := cells_at hu
      obtain ⟨_, _, b2, o2, e2, hc2⟩ := hB j x hx
      cases e2
      rw [Lib.addr_add]; exact hc2
    have HSRC : Hid (∀ j u, (cells l)[j]? = some u → w.cell? (a.add j) = some u) := hsrc
    have HEND : Hid (∀ v' w1, w1.ownsRow B 5 1 v' (T.length + n) (T ++ cells l) → w.grownBy w1 tv.ownBlock → (∃ va vc, v' = .slice va (T.length + n) vc) ∧ w1.cell? ⟨r, 0, none⟩ = some tv ∧ w1.frozen? ⟨r, 0, none⟩ = false ∧
        Hid (Rep B r (T ++ cells l) F v' rv (w1.setCell ⟨r, 0, none⟩ v') ∧ Below B w (w1.setCell ⟨r, 0, none⟩ v'))) := by
      intro v' w1 hown hg
      have hb1 : w1.heap[r]? = some (.cells #[tv, rv] 34 (0, 0)) := (hg.block r (Array.getElem?_eq_some_iff.1 h.blk).1 (Ne.symm (own_ne h.text h.blk (by decide)))).trans h.blk
      obtain ⟨va, vc, e, _, _⟩ := own_shape hown
      refine ⟨⟨va, vc, e⟩, by rw [Lib.cell_of_heap hb1]; rfl, Lib.frozen_of_heap hb1 0, h.text_end (T' := T ++ cells l) (by rw [List.length_append, cells_length, hl]; exact hown) hg⟩
    clear h hB hsrc
    go_enter Tryd.func16, Tryd.ntmps16
    go_wp2_with (at_builtin; refine wpList_append_own _ rfl _ _ _ rfl B 5 i0 (.int .u8 0) 1 1 Tryd.underlying24 hi hz0 hz1 hz2 rfl (by decide) tv T.length T rfl HR.out.text a n c (cells l) rfl (by rw [cells_length, hl, Nat.mul_one]) HSRC.out (cells_one l) (by unfold maxLen; omega) (by omega) HR.out.le ?_; intro v' w1 hown hg hni; obtain ⟨⟨va, vc, hv⟩, d0, df, HE⟩ := HEND.out v' w1 hown hg; clear hown hg hni HEND; rw [hv] at HE ⊢)
    exact bodyPost_ret (results_none rfl _ _ _) rfl ⟨rfl, _, HE.out⟩

theorem rep_cells {w : World} {r : Nat} {tv rv : Value} (h : w.heap[r]? = some (.cells #[tv, rv] 34 (0, 0))) : w.cell? ⟨r, 0, none⟩ = some tv ∧ w.cell? ⟨r, 1, none⟩ = some rv ∧ w.frozen? ⟨r, 1, none⟩ = false :=
  ⟨by rw [Lib.cell_of_heap h]; rfl, by rw [Lib.cell_of_heap h]; rfl, Lib.frozen_of_heap h 1⟩

/-- The references' new value is stored. -/
theorem Rep.refs_end {B r : Nat} {T : List Value} {F F' : List (Nat × Value)} {tv rv rv' : Value} {w w0 w1 : World} (h : Rep B r T F tv rv w) (h0 : ∀ k, k < w.heap.size → w0.heap[k]? = w.heap[k]?) (hs : w.heap.size ≤ w0.heap.size) (ho : w0.os = w.os ∧ w0.tape = w.tape ∧ w0.output = w.output)
    (hown : w1.ownsRow B 62 2 rv' F'.length (flat F')) (hg : w0.grownBy w1 rv.ownBlock) :
    Rep B r T F' tv rv' (w1.setCell ⟨r, 1, none⟩ rv') ∧ Below B w (w1.setCell ⟨r, 1, none⟩ rv') := by
  have hrl : r < w.heap.size := (Array.getElem?_eq_some_iff.1 h.blk).1
  have hb1 : w1.heap[r]? = some (.cells #[tv, rv] 34 (0, 0)) := (hg.block r (by omega) (Ne.symm (own_ne h.refs h.blk (by decide)))).trans ((h0 r hrl).trans h.blk)
  have hg0 : w.grownBy w0 none := ⟨ho.1, ho.2.1, ho.2.2, hs, fun k hk _ => h0 k hk⟩
  have htext : w1.ownsRow B 5 1 tv T.length T := (h.text.kept hg0 (by
    rcases h.text.2 with ⟨rfl, _⟩ | ⟨g, cap, cur, rfl, _⟩
    · exact .inl rfl
    · exact .inr (by simp [Value.ownBlock]))).kept hg (own_ne2 h.refs h.text (by decide))
  have hB0 : Below B w w0 := (Below.refl B w).grown hg0 h.le (fun k e => by cases e)
  have hB : Below B w w1 := hB0.grown hg (Nat.le_trans h.le hs) (fun k e => by
    rcases h.refs.2 with ⟨rfl, _⟩ | ⟨g, cap, cur, rfl, hb, _⟩
    · simp [Value.ownBlock] at e
    · simp [Value.ownBlock] at e; omega)
  refine ⟨⟨heap_setCell_same w1 r 1 _ _ _ hb1, own_setCell htext (own_ne htext hb1 (by decide)) _, own_setCell hown (own_ne hown hb1 (by decide)) _, ?_, h.ler⟩, hB.setCell (p := ⟨r, 1, none⟩) h.ler _⟩
  have := hg.size; have := h.le
  simp; omega

set_option maxHeartbeats 4000000 in
set_option maxRecDepth 100000 in
/-- Add, of a long piece: it is referred to. -/
theorem add_long (B r : Nat) (T : List Value) (F : List (Nat × Value)) (tv rv : Value) (w : World) (h : Rep B r T F tv rv w) (a : Option Addr) (n c : Nat) (hlong : 512 ≤ n) (hn : n ≤ 9223372036854775807) (hlim : F.length + 1 ≤ 1099511627776) :
    Calls Tryd.prog 16 #[.pointer (some ⟨r, 0, none⟩), .slice a n c] w fun e w' => e = .returned (.tuple #[]) ∧ ∃ rv', Rep B r T (F ++ [(T.length, .slice a n c)]) tv rv' w' ∧ Below B w w' := by
  obtain ⟨c0, c1, f1⟩ := rep_cells h.blk
  have hn512 : ¬ (n : Int) < 512 := by omega
  obtain ⟨i0, hi, hz0, hz1, hz2⟩ := info_parts info62
  obtain ⟨ta, tc, rfl, htc, htm⟩ := own_shape h.text
  obtain ⟨o, ho⟩ : ∃ o, o = Obj.cells #[.int .i64 (T.length : Nat), .slice a n c] 62 (0, 0) := ⟨_, rfl⟩
  have hrl : r < w.heap.size := (Array.getElem?_eq_some_iff.1 h.blk).1
  have HR : Hid (Rep B r T F (.slice ta T.length tc) rv w) := h
  have HB : Hid (w.heap[r]? = some (.cells #[.slice ta T.length tc, rv] 34 (0, 0))) := h.blk
  have HN : Hid (rv.ownBlock ≠ some r) := own_ne h.refs h.blk (by decide)
  have hone : ∀ u ∈ [Value.int .i64 (T.length : Nat), .slice a n c], u.oneCell' = true := by
    intro u hu; simp at hu; rcases hu with rfl | rfl <;> rfl
  have HO : Hid (∀ u ∈ [Value.int .i64 (T.length : Nat), .slice a n c], u.oneCell' = true) := hone
  clear h hone ho o
  go_enter Tryd.func16, Tryd.ntmps16
  go_wp2
  have c0a : ∀ o, (w.alloc o).cell? ⟨r, 0, none⟩ = some (.slice ta T.length tc) := fun o => Lib.cell?_alloc_some o c0
  have c1a : ∀ o, (w.alloc o).cell? ⟨r, 1, none⟩ = some rv := fun o => Lib.cell?_alloc_some o c1
  go_region_law (
      (refine step_append_lies _ (by rfl) _ _ _ (by rfl) B 62 i0 (.agg #[.int .i64 0, .slice none 0 0]) 2 32 Tryd.underlying32 hi hz0 hz1 hz2 (by rfl) (by decide) rv F.length (flat F) (by rfl) (World.ownsRow.alloc (w := w.drew) HR.out.refs _) ⟨w.heap.size, 0, none⟩ 1 1 [.int .i64 (T.length : Nat), .slice a n c] (by rfl) rfl (World.news_of_block (heap_alloc_new w.drew _)) HO.out (by decide) (by unfold maxLen; omega) (by omega) (Nat.le_trans HR.out.le (by simp)) (w.heap.size + 1) (by simp) ?_
       intro g cap w1 hown hgrow hat hlt
       obtain ⟨d0, d1, df⟩ := rep_cells ((hgrow.block r (by simp; omega) (Ne.symm HN.out)).trans ((Below.heap_alloc _ _ _ hrl).trans HB.out))))
  all_goals (
    go_end0
    refine ⟨rfl, .slice (some ⟨g, 0, none⟩) (F.length + 1) cap, ?_⟩
    refine HR.out.refs_end (F' := F ++ [(T.length, .slice a n c)]) (w0 := (w.alloc (.cells #[.int .i64 (T.length : Nat), .slice a n c] 62)).drew) (fun k hk => Below.heap_alloc w _ k hk) (by simp) ⟨rfl, rfl, rfl⟩ ?_ hgrow
    rw [List.length_append, flat_append]
    exact hown)
end Go.Proofs.Qxb6614495aDoor
