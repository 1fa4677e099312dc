/-
  cloneAll: the same lists, in new memory.
-/
import Derived.Test.Qxb6614495aDoorMat
import Derived.Lib.SliceRun
import Derived.Lib.BufferMore
import Derived.Laws.MakeOwn
import Derived.Laws.CopyRow
import Derived.OwnWalk
namespace Go.Proofs.Qxb6614495aDoor
open Go.RowKit

theorem info5c : (Tryd.prog.info? 5).map (fun i => (i.zero, i.size, i.bytes)) = some (some (.int .u8 0), 1, 1) := by kernel_rfl
theorem size5c : (Tryd.prog.info? 5).map (·.size) = some 1 := by kernel_rfl
theorem info24 : (Tryd.prog.info? 24).map (fun i => (i.zero, i.size, i.bytes)) = some (some (.slice none 0 0), 1, 24) := by kernel_rfl

/-- Bytes, as cells. -/
def cells (l : List Int) : List Value := l.map (Value.int .u8)
theorem cells_length (l : List Int) : (cells l).length = l.length := by simp [cells]
theorem cells_one (l : List Int) : ∀ u ∈ cells l, u.oneCell' = true := by
  intro u hu; obtain ⟨x, _, rfl⟩ := List.mem_map.1 hu; rfl
theorem cells_at {l : List Int} {j : Nat} {u : Value} (h : (cells l)[j]? = some u) : ∃ x, l[j]? = some x ∧ u = .int .u8 x := by
  unfold cells at h; rw [List.getElem?_map] at h
  obtain ⟨x, hx, rfl⟩ := Option.map_eq_some_iff.1 h
  exact ⟨x, hx, rfl⟩

theorem getElem?_madeCells (z : Value) (n i : Nat) (h : i < n) : (madeCells #[z] n)[i]? = some z := by
  simp [madeCells, h, Nat.mod_one]

/-- What cloneAll's loop keeps: the first k lists are cloned. -/
structure Cloned (w : World) (m n k : Nat) (L : List (List Int)) (wr : World) : Prop where
  bel : Below w.heap.size w wr
  lt : w.heap.size ≤ m
  row : ∃ cur, wr.heap[m]? = some (.cells cur 24 (0, 0)) ∧ cur.size = n ∧ (∀ i, k ≤ i → i < n → cur[i]? = some (.slice none 0 0)) ∧ ∀ i l, i < k → L[i]? = some l → ∃ u, cur[i]? = some u ∧ BytesAt wr u l

theorem BytesAt.nil (w : World) : BytesAt w (.slice none 0 0) [] := ⟨none, 0, 0, rfl, rfl, Nat.zero_le _, Nat.zero_le _, fun _ => rfl, fun j x h => by simp at h⟩
/-- Cells that are kept are kept as bytes. -/
theorem BytesAt.cells {w w' : World} {u : Value} {l : List Int} (h : BytesAt w u l) (hb : ∀ a x, w.cell? a = some (.int .u8 x) → w'.cell? a = some (.int .u8 x)) : BytesAt w' u l := by
  obtain ⟨a, n, c, rfl, h1, h2, h3, h0, h4⟩ := h
  refine ⟨a, n, c, rfl, h1, h2, h3, h0, fun j x hj => ?_⟩
  obtain ⟨p, q, b, o, e, hc⟩ := h4 j x hj
  exact ⟨p, q, b, o, e, hb _ _ hc⟩

/-- The clone's own row. -/
theorem bytes_row {w : World} {g n : Nat} {l : List Int} {arr : Array Value} (hg : w.heap[g]? = some (.cells arr 5 (0, 0))) (ha : arr.toList = Qxb6614495aDoor.cells l) (hl : l.length = n) (hn : n ≤ maxLen) (hr : ∀ x ∈ l, 0 ≤ x ∧ x ≤ 255) :
    BytesAt w (.slice (some ⟨g, 0, none⟩) n n) l := by
  refine ⟨_, n, n, rfl, hl, Nat.le_refl _, hn, fun h => (by cases h), fun j x hj => ?_⟩
  have hm := List.mem_of_getElem? hj
  refine ⟨(hr x hm).1, (hr x hm).2, g, 0, rfl, ?_⟩
  rw [Lib.cell_of_heap hg, ← Array.getElem?_toList, ha, Nat.zero_add]
  simp [Qxb6614495aDoor.cells, hj]

theorem BytesAt.range {w : World} {u : Value} {l : List Int} (h : BytesAt w u l) : ∀ x ∈ l, 0 ≤ x ∧ x ≤ 255 := by
  obtain ⟨a, n, c, rfl, h1, h2, h3, h0, h4⟩ := h
  intro x hx
  obtain ⟨j, hj⟩ := List.getElem?_of_mem hx
  obtain ⟨p, q, _⟩ := h4 j x hj
  exact ⟨p, q⟩

theorem eq_of_length {l : List Int} {n : Nat} (h : l.length = n) (h0 : n = 0) : l = [] := List.eq_nil_of_length_eq_zero (h.trans h0)

/-- One round that makes a clone: what it leaves. -/
theorem Cloned.step {w wr : World} {m n k : Nat} {L : List (List Int)} {l : List Int} {n' : Nat} {Z : Array Value} (h : Cloned w m n k L wr) (hk : k < n) (hlk : L[k]? = some l) (hl : l.length = n') (hn' : n' ≤ maxLen)
    (hr : ∀ x ∈ l, 0 ≤ x ∧ x ≤ 255) (hZ : Z.size = n') :
    Cloned w m n (k + 1) L (((wr.alloc (.cells Z 5)).setRow wr.heap.size (Z.toList.take 0 ++ Qxb6614495aDoor.cells l ++ Z.toList.drop (0 + (Qxb6614495aDoor.cells l).length)).toArray).setCell ⟨m, k, none⟩ (.slice (some ⟨wr.heap.size, 0, none⟩) n' n')) := by
  obtain ⟨bel, lt, cur, hrow, hsz, hnil, hdone⟩ := h
  have hm : m < wr.heap.size := (Array.getElem?_eq_some_iff.1 hrow).1
  have hmne : m ≠ wr.heap.size := by omega
  generalize harr : (Z.toList.take 0 ++ Qxb6614495aDoor.cells l ++ Z.toList.drop (0 + (Qxb6614495aDoor.cells l).length)).toArray = arr
  have harr' : arr.toList = Qxb6614495aDoor.cells l := by
    rw [← harr, List.toList_toArray, List.take_zero, List.nil_append, Nat.zero_add, List.drop_of_length_le (by simp [cells_length, hl, hZ]), List.append_nil]
  have e1 : ((wr.alloc (.cells Z 5)).setRow wr.heap.size arr).heap[m]? = some (.cells cur 24 (0, 0)) := by
    simp only [World.setRow, Array.getElem?_modify]
    rw [if_neg (Ne.symm hmne), Below.heap_alloc _ _ _ hm]; exact hrow
  have e2 : ((wr.alloc (.cells Z 5)).setRow wr.heap.size arr).heap[wr.heap.size]? = some (.cells arr 5 (0, 0)) := by
    have := heap_alloc_new wr (.cells Z 5)
    simp only [World.setRow]
    rw [Array.getElem?_modify, if_pos rfl, this]; rfl
  have old : ∀ i, i < wr.heap.size → i ≠ m → (((wr.alloc (.cells Z 5)).setRow wr.heap.size arr).setCell ⟨m, k, none⟩ (.slice (some ⟨wr.heap.size, 0, none⟩) n' n')).heap[i]? = wr.heap[i]? := by
    intro i hi him
    rw [Below.heap_setCell _ _ _ _ him]
    simp only [World.setRow, Array.getElem?_modify]
    rw [if_neg (by omega), Below.heap_alloc _ _ _ hi]
  have new : (((wr.alloc (.cells Z 5)).setRow wr.heap.size arr).setCell ⟨m, k, none⟩ (.slice (some ⟨wr.heap.size, 0, none⟩) n' n')).heap[wr.heap.size]? = some (.cells arr 5 (0, 0)) := by
    rw [Below.heap_setCell _ _ _ _ (Ne.symm hmne)]; exact e2
  refine ⟨⟨bel.os, bel.tape, bel.output, ?_, fun i hi => (old i (Nat.lt_of_lt_of_le hi bel.size) (by omega)).trans (bel.block i hi)⟩, lt, cur.setIfInBounds k (.slice (some ⟨wr.heap.size, 0, none⟩) n' n'), heap_setCell_same _ m k _ _ _ e1, by simpa using hsz, ?_, ?_⟩
  · have := bel.size; simp [World.setRow]; omega
  · intro i hi hin
    rw [Array.getElem?_setIfInBounds_ne (by omega)]; exact hnil i (by omega) hin
  · intro i l' hi hl'
    by_cases hik : i = k
    · subst hik
      rw [hlk] at hl'; cases hl'
      refine ⟨_, Array.getElem?_setIfInBounds_self_of_lt (by omega), bytes_row new harr' hl hn' hr⟩
    · obtain ⟨u, hu, hB⟩ := hdone i l' (by omega) hl'
      refine ⟨u, by rw [Array.getElem?_setIfInBounds_ne (by omega)]; exact hu, hB.cells fun a x hc => ?_⟩
      have hlt := World.block_lt_of_cell? wr _ hc
      have hne : a.block ≠ m := by
        intro e
        unfold World.cell? at hc
        rw [e, hrow] at hc
        simp only at hc
        split at hc
        · cases hc
        · rename_i hsp
          by_cases hka : k ≤ a.off
          · by_cases hna : a.off < n
            · rw [hnil a.off hka hna] at hc; cases hc
            · rw [Array.getElem?_eq_none (by omega)] at hc; cases hc
          · obtain ⟨l2, hl2⟩ : ∃ l2, L[a.off]? = some l2 := ⟨_, List.getElem?_eq_getElem (by
              have : k < L.length := (List.getElem?_eq_some_iff.1 hlk).1
              omega)⟩
            obtain ⟨u2, hu2, a2, _, _, rfl, _⟩ := hdone a.off l2 (by omega) hl2
            rw [hu2] at hc; cases hc
      exact (World.cell?_of_block (old a.block hlt hne)).trans hc

set_option maxHeartbeats 4000000 in
set_option maxRecDepth 100000 in
/-- cloneAll. -/
theorem clone_any (v : Value) (L : List (List Int)) (w : World) (h : Mat w v L) (hs : L.length + sumLen L ≤ 1048576) :
    Calls Tryd.prog 6 #[v] w fun e w' => ∃ v', e = .returned v' ∧ Mat w' v' L ∧ Below w.heap.size w w' := by
  obtain ⟨a, n, c, rfl, hl, hnc, hcm, hM⟩ := h
  unfold maxLen at hcm
  cases a with
  | none =>
    have h0 : L = [] := by
      cases L with
      | nil => rfl
      | cons l L => obtain ⟨b, o, u, e, _⟩ := hM 0 l rfl; cases e
    subst h0
    have hnil : ∀ W, (binOp .eql 22 (.slice none n c) (.slice none 0 0)).run Tryd.prog W = .ok (.bool true) W := fun W => Lib.run_eql_slice_nil_nil W _ _ Tryd.underlying22
    go_enter Tryd.func6, Tryd.ntmps6
    go_wp2
    go_ret
    exact ⟨_, rfl, ⟨none, 0, 0, rfl, rfl, Nat.le_refl _, Nat.zero_le _, fun i l h => by simp at h⟩, Below.refl _ _⟩
  | some a =>
    have hnil : ∀ W, (binOp .eql 22 (.slice (some a) n c) (.slice none 0 0)).run Tryd.prog W = .ok (.bool false) W := fun W => Lib.run_eql_slice_some_nil W _ _ _ Tryd.underlying22
    obtain ⟨i0, hi, hz0, hz1, hz2⟩ := info_parts info24
    obtain ⟨i1, hi', hy0, hy1, hy2⟩ := info_parts info5c
    obtain ⟨M, hM'⟩ : ∃ M, M = madeCells (Value.slice none 0 0).cells ((n : Int).toNat * i0.size) := ⟨_, rfl⟩
    have hMs : M.size = n := by rw [hM', size_madeCells, hz1]; simp
    have hMz : ∀ i, i < n → M[i]? = some (.slice none 0 0) := fun i hi => by
      rw [hM', hz1]; exact getElem?_madeCells _ _ _ (by simpa using hi)
    have hmk : ∀ W : World, (Instr.makeSlice 22 (.int .i64 (n : Int)) (.int .i64 (n : Int))).run Tryd.prog W = .ok (.slice (some ⟨W.heap.size, 0, none⟩) n n) (W.alloc (.cells M 24)) := fun W => by
      have h := run_make (P := Tryd.prog) W 22 24 i0 (.slice none 0 0) Tryd.underlying22 hi hz0 .i64 .i64 (n : Int) (n : Int) (by omega) (by omega) (by rw [hz2]; omega) (by omega)
      rw [← hM'] at h
      simpa using h
    clear hM'
    have hc0 : Hid (Cloned w w.heap.size n 0 L (w.alloc (.cells M 24))) := ⟨(Below.refl _ _).alloc (Nat.le_refl _) _, Nat.le_refl _, M, heap_alloc_new w _, hMs, fun i _ h => hMz i h, fun i l h => absurd h (by omega)⟩
    go_enter Tryd.func6, Tryd.ntmps6
    go_wp2
    go_loopw [4] (fun i wr => ∃ k : Nat, k ≤ n ∧ i = .int .i64 k ∧ Hid (Cloned w w.heap.size n k L wr)) (fun i _ => n - (intOf i).toNat)
    case atStart => exact ⟨0, Nat.zero_le _, rfl, hc0⟩
    case round =>
      obtain ⟨k, hk, rfl, hcl⟩ := hrel
      clear hc0
      by_cases hlt : k < n
      · obtain ⟨l, hlk⟩ : ∃ l, L[k]? = some l := ⟨_, List.getElem?_eq_getElem (by omega)⟩
        obtain ⟨b, o, u, ea, hcell, hB⟩ := hM k l hlk
        cases ea
        have hbW := World.block_lt_of_cell? w _ hcell
        have hcell' : wr.cell? ⟨b, o + k, none⟩ = some u := (hcl.out.bel.cell (p := ⟨b, o + k, none⟩) hbW).trans hcell
        have hr := hB.range
        obtain ⟨a', n', c', rfl, hl', hnc', hcm', -, hB'⟩ := hB
        unfold maxLen at hcm'
        cases a' with
        | none =>
          have hl0 : l = [] := by
            cases l with
            | nil => rfl
            | cons x l => obtain ⟨_, _, _, _, e, _⟩ := hB' 0 x rfl; cases e
          have hn1 : ∀ W, (binOp .eql 24 (.slice none n' c') (.slice none 0 0)).run Tryd.prog W = .ok (.bool true) W := fun W => Lib.run_eql_slice_nil_nil W _ _ Tryd.underlying24
          clear hB' hM
          go_wp2
          go_roundw
          case rel =>
            refine ⟨k + 1, by omega, by go_num, ?_⟩
            obtain ⟨bel, lt, cur, h1, h2, h3, h4⟩ := hcl.out
            refine ⟨bel, lt, cur, h1, h2, fun i hi hn => h3 i (by omega) hn, fun i l' hi hl2 => ?_⟩
            by_cases hik : i = k
            · subst hik; rw [hlk] at hl2; cases hl2; subst hl0
              exact ⟨_, h3 i (Nat.le_refl _) hlt, BytesAt.nil _⟩
            · exact h4 i l' (by omega) hl2
          case measure => simp [intOf]; omega
        | some a' =>
          have hn1 : ∀ W, (binOp .eql 24 (.slice (some a') n' c') (.slice none 0 0)).run Tryd.prog W = .ok (.bool false) W := fun W => Lib.run_eql_slice_some_nil W _ _ _ Tryd.underlying24
          have hsl := sumLen_take_succ L k l hlk
          have hsl2 := sumLen_take_le L (k + 1)
          obtain ⟨Z, hZ'⟩ : ∃ Z, Z = madeCells (Value.int .u8 0).cells ((n' : Int).toNat * i1.size) := ⟨_, rfl⟩
          have hZs : Z.size = n' := by rw [hZ', size_madeCells, hy1]; simp
          have hmk' : ∀ W : World, (Instr.makeSlice 24 (.int .i64 (n' : Int)) (.int .i64 (n' : Int))).run Tryd.prog W = .ok (.slice (some ⟨W.heap.size, 0, none⟩) n' n') (W.alloc (.cells Z 5)) := fun W => by
            have h := run_make (P := Tryd.prog) W 24 5 i1 (.int .u8 0) Tryd.underlying24 hi' hy0 .i64 .i64 (n' : Int) (n' : Int) (by omega) (by omega) (by rw [hy2]; omega) (by omega)
            rw [← hZ'] at h
            simpa using h
          clear hZ' hsl hsl2
          have hst := hcl.out.step hlt hlk hl' (by unfold maxLen; omega) hr hZs
          have hsrc : ∀ j u, (cells l)[j]? = some u → (wr.alloc (.cells Z 5)).cell? (a'.add j) = some u := by
            intro j u hu
            obtain ⟨x, hx, rfl⟩ := cells_at hu
            obtain ⟨_, _, b2, o2, e2, hc2⟩ := hB' j x hx
            cases e2
            rw [Lib.addr_add]
            have h2 := (hcl.out.bel.cell (p := ⟨b2, o2 + j, none⟩) (World.block_lt_of_cell? w _ hc2)).trans hc2
            exact Lib.cell?_alloc_some _ h2
          have hcp := run_copy_row (P := Tryd.prog) (wr.alloc (.cells Z 5)) 24 24 3 5 wr.heap.size 0 n' n' a' n' c' Z 5 (cells l) Tryd.underlying24 size5c (heap_alloc_new wr _) (by rw [cells_length, hl']; exact (Nat.min_self n').symm) hsrc (by rw [cells_length, hl', hZs]; omega) (cells_one l)
          obtain ⟨W2, hW2⟩ : ∃ W2, (wr.alloc (.cells Z 5)).setRow wr.heap.size ((Z.toList.take 0 ++ cells l ++ Z.toList.drop (0 + (cells l).length)).toArray) = W2 := ⟨_, rfl⟩
          rw [hW2] at hcp hst
          have hcell1 : (wr.alloc (.cells Z 5)).cell? ⟨b, o + k, none⟩ = some (.slice (some a') n' c') := Lib.cell?_alloc_some _ hcell'
          have hrow2 : ∃ cur, W2.heap[w.heap.size]? = some (.cells cur 24 (0, 0)) ∧ cur[k]? = some (.slice none 0 0) := by
            obtain ⟨bel, lt, cur, h1, h2, h3, h4⟩ := hcl.out
            have hm : w.heap.size < wr.heap.size := (Array.getElem?_eq_some_iff.1 h1).1
            refine ⟨cur, ?_, h3 k (Nat.le_refl _) hlt⟩
            rw [← hW2]
            simp only [World.setRow, Array.getElem?_modify]
            rw [if_neg (by omega), Below.heap_alloc _ _ _ hm]; exact h1
          obtain ⟨cur2, hrow2, hck⟩ := hrow2
          have hcm2 : W2.cell? ⟨w.heap.size, k, none⟩ = some (.slice none 0 0) := by rw [Lib.cell_of_heap hrow2]; exact hck
          have hfm2 : W2.frozen? ⟨w.heap.size, k, none⟩ = false := Lib.frozen_of_heap hrow2 k
          have HST : Hid (Cloned w w.heap.size n (k + 1) L (W2.setCell ⟨w.heap.size, k, none⟩ (.slice (some ⟨wr.heap.size, 0, none⟩) n' n'))) := hst
          clear hst hB' hM hsrc hrow2 hck hW2
          go_wp2
          go_roundw
          case rel => exact ⟨k + 1, by omega, by go_num, HST⟩
          case measure => simp [intOf]; omega
      · obtain rfl : k = n := by omega
        clear hM
        go_wp2
        go_ret
        obtain ⟨bel, lt, cur, h1, h2, h3, h4⟩ := hcl.out
        refine ⟨_, rfl, ⟨_, k, k, rfl, hl, Nat.le_refl _, by unfold maxLen; omega, fun i l hi => ?_⟩, bel⟩
        obtain ⟨u, hu, hB⟩ := h4 i l (by have := (List.getElem?_eq_some_iff.1 hi).1; omega) hi
        exact ⟨w.heap.size, 0, u, rfl, by rw [Lib.cell_of_heap h1, Nat.zero_add]; exact hu, hB⟩
end Go.Proofs.Qxb6614495aDoor
