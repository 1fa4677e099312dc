/-
  (*bytes.Buffer).Write, Bytes: over the frame 'Shift'.
-/
import Derived.Test.Qxb6614495aDoorDefs
import Derived.Test.Qxb6614495aDoorGrow
import Derived.Lib.BufferSrc
namespace Go.Proofs.Qxb6614495aDoor
open Go.RowKit

theorem heap_setRow_same {w : World} {g : Nat} {cur : Array Value} {t : TypeId} (hg : w.heap[g]? = some (.cells cur t (0, 0))) (arr : Array Value) : (w.setRow g arr).heap[g]? = some (.cells arr t (0, 0)) := by
  simp [World.setRow, Array.getElem?_modify, hg]
theorem heap_setRow_other (w : World) (g k : Nat) (arr : Array Value) (h : k ≠ g) : (w.setRow g arr).heap[k]? = w.heap[k]? := by
  simp [World.setRow, Array.getElem?_modify, Ne.symm h]
theorem size_setRow (w : World) (g : Nat) (arr : Array Value) : (w.setRow g arr).heap.size = w.heap.size := by simp [World.setRow]

/-- The row behind 'copy(b.buf[m:], p)'. -/
theorem buf_end {b g l n cap : Nat} {lr : Int} {bs cs : List Value} {cur : Array Value} {w1 : World}
    (hbk : w1.heap[b]? = some (.cells #[.slice (some ⟨g, 0, none⟩) (l + n) cap, .int .i64 0, .int .i8 lr] 43 (0, 0))) (hg : w1.heap[g]? = some (.cells cur 5 (0, 0)))
    (hc : l + n ≤ cap) (hm : cap ≤ maxLen) (hcs : cur.size = cap) (htk : cur.toList.take l = bs) (hl : bs.length = l) (hn : cs.length = n) (h1 : 1 ≤ n) :
    BufAt b (bs ++ cs) (.slice (some ⟨g, 0, none⟩) (l + n) cap) (w1.setRow g (cur.toList.take l ++ cs ++ cur.toList.drop (l + n)).toArray) := by
  have hne : g ≠ b := by
    intro e; rw [e, hbk] at hg
    have := congrArg (fun o => match o with | some (Obj.cells _ t _) => t | _ => 0) hg
    simp at this
  refine ⟨⟨lr, ?_⟩, .inr ⟨g, cap, _, by rw [List.length_append, hl, hn], hne, heap_setRow_same hg _, by rw [List.length_append, hl, hn]; exact hc, hm, ?_, ?_, by rw [List.length_append]; omega⟩⟩
  · rw [heap_setRow_other _ _ _ _ (Ne.symm hne)]; exact hbk
  · simp [htk, hl, hn]; omega
  · rw [List.toList_toArray, htk, List.take_left' rfl]

/-- The frame behind the three steps. -/
theorem shift_end {b g n cap l : Nat} {v : Value} {arr : Array Value} {w w0 w1 : World} (h0 : w.grownBy w0 (some b)) (h1 : w0.grownBy w1 (some b)) (hg : v.ownBlock = some g ∨ w.heap.size ≤ g) :
    Shift b v (.slice (some ⟨g, 0, none⟩) (l + n) cap) w (w1.setRow g arr) := by
  have h2 := Lib.grownBy_trans h0 h1
  refine ⟨h2.os, h2.tape, h2.output, by rw [size_setRow]; exact h2.size, fun k hk hkb hv => ?_, fun k hk => ?_⟩
  · have hkg : k ≠ g := by
      intro e; subst e
      rcases hg with h | h
      · exact hv h
      · omega
    rw [heap_setRow_other _ _ _ _ hkg]
    exact h2.block k hk (fun e => hkb (Option.some.inj e))
  · simp only [Value.ownBlock, Option.some.injEq] at hk
    subst hk; exact hg

set_option maxHeartbeats 4000000 in
set_option maxRecDepth 100000 in
/-- (*bytes.Buffer).Write. -/
theorem bufWrite (b : Nat) (bs cs : List Value) (v : Value) (a : Addr) (n c : Nat) (w : World) (h : BufAt b bs v w) (h1 : ∀ u ∈ bs, u.oneCell' = true)
    (hn : cs.length = n) (hn1 : 1 ≤ n) (hab : a.block ≠ b) (hsrc : ∀ j u, cs[j]? = some u → w.cell? (a.add j) = some u) (h1c : ∀ u ∈ cs, u.oneCell' = true) (hlim : bs.length + n ≤ 140737488355328) :
    Calls Tryd.prog 65 #[.pointer (some ⟨b, 0, none⟩), .slice (some a) n c] w fun e w' => e = .returned (.tuple #[.int .i64 n, .nilIface]) ∧ ∃ v', BufAt b (bs ++ cs) v' w' ∧ Shift b v v' w w' := by
  obtain ⟨⟨lr, hbk⟩, hrow⟩ := h
  have f2 : w.frozen? ⟨b, 2, none⟩ = false := Lib.frozen_of_heap hbk 2
  have c2 : w.cell? ⟨b, 2, none⟩ = some (.int .i8 lr) := by rw [Lib.cell_of_heap hbk]; rfl
  have hbk0 : (w.setCell ⟨b, 2, none⟩ (.int .i8 0)).heap[b]? = some (.cells #[v, .int .i64 0, .int .i8 0] 43 (0, 0)) := set3_2 hbk _
  have hg0 : Hid (w.grownBy (w.setCell ⟨b, 2, none⟩ (.int .i8 0)) (some b)) := Lib.grownBy_setCell w b 2 _
  have hsrc1 : Hid (∀ W, (w.setCell ⟨b, 2, none⟩ (.int .i8 0)).grownBy W (some b) → ∀ j u, cs[j]? = some u → W.cell? (a.add j) = some u) := fun W hW j u hj =>
    (Lib.grownBy_trans hg0.out hW).cell (hsrc j u hj) (by rw [Lib.block_add]; exact fun e => hab (Option.some.inj e))
  clear hbk hsrc
  have fin : Hid (∀ (g l cap : Nat) (cur : Array Value) (W1 : World), l = bs.length → W1.heap[b]? = some (.cells #[.slice (some ⟨g, 0, none⟩) (l + n) cap, .int .i64 0, .int .i8 0] 43 (0, 0)) → W1.heap[g]? = some (.cells cur 5 (0, 0)) →
      l + n ≤ cap → cap ≤ maxLen → cur.size = cap → cur.toList.take l = bs → (w.setCell ⟨b, 2, none⟩ (.int .i8 0)).grownBy W1 (some b) → (v.ownBlock = some g ∨ w.heap.size ≤ g) →
      (Builtin.copy_ #[24, 24] 3 #[.slice (some ⟨g, l, none⟩) n (cap - l), .slice (some a) n c]).run Tryd.prog W1 = .ok (.int .i64 (n : Int)) (W1.setRow g (cur.toList.take l ++ cs ++ cur.toList.drop (l + n)).toArray) ∧
      ∃ v', BufAt b (bs ++ cs) v' (W1.setRow g (cur.toList.take l ++ cs ++ cur.toList.drop (l + n)).toArray) ∧ Shift b v v' w (W1.setRow g (cur.toList.take l ++ cs ++ cur.toList.drop (l + n)).toArray)) := by
    intro g l cap cur W1 hl hb1 hg1 hc hm hcs htk hgr hgv
    refine ⟨?_, _, buf_end hb1 hg1 hc hm hcs htk hl.symm hn hn1, shift_end hg0.out hgr hgv⟩
    have hcp := run_copy_row (P := Tryd.prog) W1 24 24 3 5 g l n (cap - l) a n c cur 5 cs Tryd.underlying24 size5 hg1 (by rw [hn]; exact (Nat.min_self n).symm) (hsrc1.out W1 hgr) (by rw [hn]; omega) h1c
    rw [hn] at hcp
    exact hcp
  have c0 : (w.setCell ⟨b, 2, none⟩ (.int .i8 0)).cell? ⟨b, 0, none⟩ = some v := by rw [Lib.cell_of_heap hbk0]; rfl
  have f0 : (w.setCell ⟨b, 2, none⟩ (.int .i8 0)).frozen? ⟨b, 0, none⟩ = false := Lib.frozen_of_heap hbk0 0
  have hsz : (w.setCell ⟨b, 2, none⟩ (.int .i8 0)).heap.size = w.heap.size := by simp
  rcases hrow with ⟨rfl, rfl⟩ | ⟨g, cap, cur, rfl, hgb, hg, hlc, hcm, hcs, htk, hl1⟩
  · -- NIL: grow
    have HG : Hid (∀ e W, e = Ending.returned (.int .i64 ((0 : Nat) : Int)) ∧ Grew b 0 n [] 0 (w.setCell ⟨b, 2, none⟩ (.int .i8 0)) W → e = Ending.returned (.int .i64 0) ∧ ∃ g cap W2, W.cell? ⟨b, 0, none⟩ = some (.slice (some ⟨g, 0, none⟩) n cap) ∧ n ≤ cap ∧ cap ≤ 9223372036854775807 ∧
        (Builtin.copy_ #[24, 24] 3 #[.slice (some ⟨g, 0, none⟩) n cap, .slice (some a) n c]).run Tryd.prog W = .ok (.int .i64 (n : Int)) W2 ∧ Hid (∃ v', BufAt b ([] ++ cs) v' W2 ∧ Shift b (.slice none 0 0) v' w W2)) := by
      rintro e W ⟨rfl, g, cap, cur, q1, q2, q3, q4, q5, q6, q7, q8⟩
      obtain ⟨r1, r2⟩ := fin.out g 0 cap cur W rfl q1 q3 q4 q5 q6 q7 q8 (.inr (by omega))
      refine ⟨rfl, g, cap, _, ?_, by omega, by unfold maxLen at q5; omega, r1, r2⟩
      rw [Lib.cell_of_heap q1, Nat.zero_add]; rfl
    clear fin hsrc1 hg0
    by_cases h64 : n ≤ 64
    · go_enter Tryd.func65, Tryd.ntmps65
      go_wp2_with (first
        | (go_at_call 67; refine (tryGrow_none b none 0 0 n _ c0 (Nat.le_refl _) (Nat.zero_le _) (by omega)).mono ?_; rintro e w' ⟨rfl, rfl⟩)
        | (go_at_call 68; refine (grow_small b n 0 _ hbk0 hn1 h64).mono ?_; intro e W hW; obtain ⟨rfl, g, cap, W2, d0, hc1, hc2, hcp, HF⟩ := HG.out e W hW; clear HG hW))
      go_ret2
      exact ⟨rfl, HF.out⟩
    · go_enter Tryd.func65, Tryd.ntmps65
      go_wp2_with (first
        | (go_at_call 67; refine (tryGrow_none b none 0 0 n _ c0 (Nat.le_refl _) (Nat.zero_le _) (by omega)).mono ?_; rintro e w' ⟨rfl, rfl⟩)
        | (go_at_call 68; refine (grow_big b n 0 _ hbk0 (by omega) (by omega)).mono ?_; intro e W hW; obtain ⟨rfl, g, cap, W2, d0, hc1, hc2, hcp, HF⟩ := HG.out e W hW; clear HG hW))
      go_ret2
      exact ⟨rfl, HF.out⟩
  · have hcm' := hcm
    unfold maxLen at hcm'
    have hg1 : (w.setCell ⟨b, 2, none⟩ (.int .i8 0)).heap[g]? = some (.cells cur 5 (0, 0)) := by rw [Below.heap_setCell _ _ _ _ hgb]; exact hg
    by_cases hroom : n ≤ cap - bs.length
    · -- THERE IS ROOM
      have hfin := fin.out g bs.length cap cur ((w.setCell ⟨b, 2, none⟩ (.int .i8 0)).setCell ⟨b, 0, none⟩ (.slice (some ⟨g, 0, none⟩) (bs.length + n) cap)) rfl (set3_0 hbk0 _)
        (by rw [Below.heap_setCell _ _ _ _ hgb]; exact hg1) (by omega) hcm hcs htk (Lib.grownBy_setCell _ b 0 _) (.inl rfl)
      obtain ⟨W2, hW2⟩ : ∃ W2, ((w.setCell ⟨b, 2, none⟩ (.int .i8 0)).setCell ⟨b, 0, none⟩ (.slice (some ⟨g, 0, none⟩) (bs.length + n) cap)).setRow g (cur.toList.take bs.length ++ cs ++ cur.toList.drop (bs.length + n)).toArray = W2 := ⟨_, rfl⟩
      rw [hW2] at hfin
      obtain ⟨hcp, hF⟩ := hfin
      have HF : Hid (∃ v', BufAt b (bs ++ cs) v' W2 ∧ Shift b (.slice (some ⟨g, 0, none⟩) bs.length cap) v' w W2) := hF
      have d0 : ((w.setCell ⟨b, 2, none⟩ (.int .i8 0)).setCell ⟨b, 0, none⟩ (.slice (some ⟨g, 0, none⟩) (bs.length + n) cap)).cell? ⟨b, 0, none⟩ = some (.slice (some ⟨g, 0, none⟩) (bs.length + n) cap) := by
        rw [Lib.cell_of_heap (set3_0 hbk0 _)]; rfl
      clear fin hsrc1 hg0 hF hW2
      go_enter Tryd.func65, Tryd.ntmps65
      go_wp2_with (go_at_call 67; refine (tryGrow_room b _ bs.length cap n _ c0 f0 hlc hcm hroom).mono ?_; rintro e w' ⟨rfl, rfl⟩)
      go_ret2
      exact ⟨rfl, HF.out⟩
    · -- THERE IS NONE: grow
      have HG : Hid (∀ e W, e = Ending.returned (.int .i64 (bs.length : Int)) ∧ Grew b bs.length n bs 0 (w.setCell ⟨b, 2, none⟩ (.int .i8 0)) W → e = Ending.returned (.int .i64 (bs.length : Int)) ∧ ∃ g' cap' W2, W.cell? ⟨b, 0, none⟩ = some (.slice (some ⟨g', 0, none⟩) (bs.length + n) cap') ∧ bs.length + n ≤ cap' ∧ cap' ≤ 9223372036854775807 ∧
          (Builtin.copy_ #[24, 24] 3 #[.slice (some ⟨g', bs.length, none⟩) n (cap' - bs.length), .slice (some a) n c]).run Tryd.prog W = .ok (.int .i64 (n : Int)) W2 ∧ Hid (∃ v', BufAt b (bs ++ cs) v' W2 ∧ Shift b (.slice (some ⟨g, 0, none⟩) bs.length cap) v' w W2)) := by
        rintro e W ⟨rfl, g', cap', cur', q1, q2, q3, q4, q5, q6, q7, q8⟩
        obtain ⟨r1, r2⟩ := fin.out g' bs.length cap' cur' W rfl q1 q3 q4 q5 q6 q7 q8 (.inr (by omega))
        refine ⟨rfl, g', cap', _, ?_, by omega, by unfold maxLen at q5; omega, r1, r2⟩
        rw [Lib.cell_of_heap q1]; rfl
      clear fin hsrc1 hg0
      go_enter Tryd.func65, Tryd.ntmps65
      go_wp2_with (first
        | (go_at_call 67; refine (tryGrow_none b _ bs.length cap n _ c0 hlc hcm (by omega)).mono ?_; rintro e w' ⟨rfl, rfl⟩)
        | (go_at_call 68; refine (grow_row b g bs.length cap n 0 cur bs _ hbk0 hg1 hlc hcm hcs htk h1 hl1 hn1 (by omega) hlim).mono ?_; intro e W hW; obtain ⟨rfl, g', cap', W2, d0, hc1, hc2, hcp, HF⟩ := HG.out e W hW; clear HG hW))
      go_ret2
      exact ⟨rfl, HF.out⟩

/-- (*bytes.Buffer).Bytes. -/
theorem bytes_any (b : Nat) (bs : List Value) (v : Value) (w : World) (h : BufAt b bs v w) :
    Calls Tryd.prog 23 #[.pointer (some ⟨b, 0, none⟩)] w fun e w' => e = .returned v ∧ ∃ k, w' = w.drewN k := by
  obtain ⟨⟨lr, hbk⟩, hrow⟩ := h
  have c0 : w.cell? ⟨b, 0, none⟩ = some v := by rw [Lib.cell_of_heap hbk]; rfl
  have c1 : w.cell? ⟨b, 1, none⟩ = some (.int .i64 0) := by rw [Lib.cell_of_heap hbk]; rfl
  rcases hrow with ⟨rfl, rfl⟩ | ⟨g, cap, cur, rfl, hgb, hg, hlc, hcm, hcs, htk, hl1⟩
  · go_enter Tryd.func23, Tryd.ntmps23
    go_wp2
    go_quiet (fail)
    go_wp2
    go_ret
    exact ⟨rfl, _, rfl⟩
  · unfold maxLen at hcm
    go_enter Tryd.func23, Tryd.ntmps23
    go_wp2
    go_quiet (fail)
    go_wp2
    go_ret
    exact ⟨rfl, _, rfl⟩
end Go.Proofs.Qxb6614495aDoor
