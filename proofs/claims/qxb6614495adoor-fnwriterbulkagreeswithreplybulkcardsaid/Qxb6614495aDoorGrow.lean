/-
  bytes.Buffer: grow: the new row lies in a new block.
-/
import Derived.Test.Qxb6614495aDoorTry
import Derived.Test.Qxb6614495aDoorGrowLaid
import Derived.Lib.SliceRun
import Derived.Lib.BufferMore
import Derived.Lib.BufferOwn
import Derived.Laws.MakeOwn
import Derived.OwnWalk
import Derived.Lib.Hide
import Derived.Deep.RegionWith
import Derived.BigRegion
import Derived.BigCall
import Derived.Laws.CopyRow
namespace Go.Proofs.Qxb6614495aDoor
open Go.RowKit

/-- What grow leaves: the buffer's slice has n more, in a NEW row. -/
def Grew (b l n : Nat) (bs : List Value) (lr : Int) (w w' : World) : Prop :=
  ∃ g cap cur, w'.heap[b]? = some (.cells #[.slice (some ⟨g, 0, none⟩) (l + n) cap, .int .i64 0, .int .i8 lr] 43 (0, 0)) ∧ w.heap.size ≤ g ∧ w'.heap[g]? = some (.cells cur 5 (0, 0)) ∧
    l + n ≤ cap ∧ cap ≤ maxLen ∧ cur.size = cap ∧ cur.toList.take l = bs ∧ w.grownBy w' (some b)

theorem info5 : (Tryd.prog.info? 5).map (fun i => (i.zero, i.size, i.bytes)) = some (some (.int .u8 0), 1, 1) := by kernel_rfl
theorem size5 : (Tryd.prog.info? 5).map (·.size) = some 1 := by kernel_rfl

theorem set3_0 {w : World} {b : Nat} {x y z : Value} (h : w.heap[b]? = some (.cells #[x, y, z] 43 (0, 0))) (v : Value) : (w.setCell ⟨b, 0, none⟩ v).heap[b]? = some (.cells #[v, y, z] 43 (0, 0)) :=
  heap_setCell_same w b 0 _ _ v h
theorem set3_1 {w : World} {b : Nat} {x y z : Value} (h : w.heap[b]? = some (.cells #[x, y, z] 43 (0, 0))) (v : Value) : (w.setCell ⟨b, 1, none⟩ v).heap[b]? = some (.cells #[x, v, z] 43 (0, 0)) :=
  heap_setCell_same w b 1 _ _ v h
theorem set3_2 {w : World} {b : Nat} {x y z : Value} (h : w.heap[b]? = some (.cells #[x, y, z] 43 (0, 0))) (v : Value) : (w.setCell ⟨b, 2, none⟩ v).heap[b]? = some (.cells #[x, y, v] 43 (0, 0)) :=
  heap_setCell_same w b 2 _ _ v h

set_option maxHeartbeats 1000000 in
set_option maxRecDepth 100000 in
/-- grow, of the nil buffer, few bytes. -/
theorem grow_small (b n : Nat) (lr : Int) (w : World) (hbk : w.heap[b]? = some (.cells #[.slice none 0 0, .int .i64 0, .int .i8 lr] 43 (0, 0))) (hn : 1 ≤ n) (h64 : n ≤ 64) :
    Calls Tryd.prog 68 #[.pointer (some ⟨b, 0, none⟩), .int .i64 n] w fun e w' => e = .returned (.int .i64 ((0 : Nat) : Int)) ∧ Grew b 0 n [] lr w w' := by
  obtain ⟨i0, hi, hz0, hz1, hz2⟩ := info_parts info5
  obtain ⟨M, hM⟩ : ∃ M, M = madeCells (Value.int .u8 0).cells ((64 : Int).toNat * i0.size) := ⟨_, rfl⟩
  have hMs : M.size = 64 := by rw [hM, size_madeCells, hz1]; rfl
  have hmk : ∀ W : World, (Instr.makeSlice 24 (.int .i64 (n : Int)) (.int .i64 64)).run Tryd.prog W = .ok (.slice (some ⟨W.heap.size, 0, none⟩) n 64) (W.alloc (.cells M 5)) := fun W => by
    have h := run_makeSlice (P := Tryd.prog) W 24 5 i0 (.int .u8 0) Tryd.underlying24 hi hz0 .i64 .i64 (n : Int) 64 (by omega) (by omega) (by rw [hz1]; decide) (by rw [hz2]; decide) (by decide)
    rw [← hM] at h
    simpa using h
  clear hM
  have hnil : ∀ W, (binOp .eql 24 (.slice none 0 0) (.slice none 0 0)).run Tryd.prog W = .ok (.bool true) W := fun W => Lib.run_eql_slice_nil_nil W _ _ Tryd.underlying24
  have c0 : w.cell? ⟨b, 0, none⟩ = some (.slice none 0 0) := by rw [Lib.cell_of_heap hbk]; rfl
  have c1 : w.cell? ⟨b, 1, none⟩ = some (.int .i64 0) := by rw [Lib.cell_of_heap hbk]; rfl
  go_enter Tryd.func68, Tryd.ntmps68
  go_wp2_with (go_at_call 69; refine (len_any b none 0 0 _ c0 c1 (by decide)).mono ?_)
  rintro e W0 ⟨rfl, k, hW0⟩
  have hbk0 : W0.heap[b]? = some (.cells #[.slice none 0 0, .int .i64 0, .int .i8 lr] 43 (0, 0)) := by rw [hW0]; exact hbk
  clear c0 c1
  have c0 : W0.cell? ⟨b, 0, none⟩ = some (.slice none 0 0) := by rw [Lib.cell_of_heap hbk0]; rfl
  have c1 : W0.cell? ⟨b, 1, none⟩ = some (.int .i64 0) := by rw [Lib.cell_of_heap hbk0]; rfl
  have f0 : W0.frozen? ⟨b, 0, none⟩ = false := Lib.frozen_of_heap hbk0 0
  have hbW0 := Lib.lt_of_heap hbk0
  have c0a : ∀ o, (W0.alloc o).cell? ⟨b, 0, none⟩ = some (.slice none 0 0) := fun o => (World.cell?_of_block (a := ⟨b, 0, none⟩) (Below.heap_alloc W0 o b hbW0)).trans c0
  have f0a : ∀ o, (W0.alloc o).frozen? ⟨b, 0, none⟩ = false := fun o => (World.frozen?_of_block (a := ⟨b, 0, none⟩) (Below.heap_alloc W0 o b hbW0)).trans f0
  have HW0 := Lib.hid hW0
  clear hW0
  go_wp2_with (go_at_call 67; refine (tryGrow_none b _ 0 0 n _ c0 (Nat.le_refl _) (Nat.zero_le _) (by omega)).mono ?_; rintro e w' ⟨rfl, rfl⟩)
  go_ret
  have hw : w' = w.drewN k := HW0.out
  have hg0 : w.grownBy w' (some b) := by rw [hw]; exact ⟨rfl, rfl, rfl, Nat.le_refl _, fun _ _ _ => rfl⟩
  have hsz : w'.heap.size = w.heap.size := by rw [hw]; rfl
  refine ⟨rfl, w'.heap.size, 64, M, ?_, by omega, ?_, by omega, by decide, hMs, rfl, Lib.grownBy_allocR (Lib.grownBy_setB hg0 0 _) _⟩
  · rw [Below.heap_alloc _ _ _ (by simpa using hbW0), Nat.zero_add]
    exact set3_0 hbk0 _
  · have := heap_alloc_new (w'.setCell ⟨b, 0, none⟩ (.slice (some ⟨w'.heap.size, 0, none⟩) n 64)) (.cells M 5)
    simpa using this

/-- The three stores behind growSlice. -/
theorem grew_end {b l n m N k cap2 : Nat} {bs : List Value} {lr : Int} {w w' w2 : World} {v0 y0 u : Value} {cells : Array Value} (hw : w' = w.drewN k) (hm : m = l + n) (hNs : N = w'.heap.size)
    (hbk2 : w2.heap[b]? = some (.cells #[v0, y0, .int .i8 lr] 43 (0, 0))) (hbel : Below N w'.drew w2) (hN : w2.heap[N]? = some (.cells cells 5 (0, 0)))
    (hcsz : cells.size = cap2) (htk : cells.toList.take l = bs) (hcap2 : l + n ≤ cap2) (hcm2 : cap2 ≤ maxLen) :
    Grew b l n bs lr w (((w2.setCell ⟨b, 0, none⟩ u).setCell ⟨b, 1, none⟩ (.int .i64 0)).setCell ⟨b, 0, none⟩ (.slice (some ⟨N, 0, none⟩) m cap2)) := by
  subst hm hNs
  have hne : w'.heap.size ≠ b := by
    intro e; rw [e, hbk2] at hN
    have := congrArg (fun o => match o with | some (Obj.cells _ t _) => t | _ => 0) hN
    simp at this
  have hg : w.grownBy w2 (some b) := Lib.grownBy_below (w := w'.drew) (by rw [hw]; exact ⟨rfl, rfl, rfl, Nat.le_refl _, fun _ _ _ => rfl⟩) hbel
  refine ⟨w'.heap.size, cap2, cells, ?_, by rw [hw]; exact Nat.le_refl _, ?_, hcap2, hcm2, hcsz, htk, Lib.grownBy_setB (Lib.grownBy_setB (Lib.grownBy_setB hg 0 _) 1 _) 0 _⟩
  · exact set3_0 (set3_1 (set3_0 hbk2 _) _) _
  · rw [Below.heap_setCell _ _ _ _ hne, Below.heap_setCell _ _ _ _ hne, Below.heap_setCell _ _ _ _ hne]; exact hN

set_option maxHeartbeats 4000000 in
set_option maxRecDepth 100000 in
/-- grow, of the nil buffer, many bytes. -/
theorem grow_big (b n : Nat) (lr : Int) (w : World) (hbk : w.heap[b]? = some (.cells #[.slice none 0 0, .int .i64 0, .int .i8 lr] 43 (0, 0))) (h64 : 64 < n) (hlim : n ≤ 140737488355328) :
    Calls Tryd.prog 68 #[.pointer (some ⟨b, 0, none⟩), .int .i64 n] w fun e w' => e = .returned (.int .i64 ((0 : Nat) : Int)) ∧ Grew b 0 n [] lr w w' := by
  have hn : 1 ≤ n := by omega
  have hnil : ∀ W, (binOp .eql 24 (.slice none 0 0) (.slice none 0 0)).run Tryd.prog W = .ok (.bool true) W := fun W => Lib.run_eql_slice_nil_nil W _ _ Tryd.underlying24
  have c0 : w.cell? ⟨b, 0, none⟩ = some (.slice none 0 0) := by rw [Lib.cell_of_heap hbk]; rfl
  have c1 : w.cell? ⟨b, 1, none⟩ = some (.int .i64 0) := by rw [Lib.cell_of_heap hbk]; rfl
  go_enter Tryd.func68, Tryd.ntmps68
  go_wp2_with (go_at_call 69; refine (len_any b none 0 0 _ c0 c1 (by decide)).mono ?_)
  rintro e W0 ⟨rfl, k, hW0⟩
  have hbk0 : W0.heap[b]? = some (.cells #[.slice none 0 0, .int .i64 0, .int .i8 lr] 43 (0, 0)) := by rw [hW0]; exact hbk
  clear c0 c1
  have c0 : W0.cell? ⟨b, 0, none⟩ = some (.slice none 0 0) := by rw [Lib.cell_of_heap hbk0]; rfl
  have c1 : W0.cell? ⟨b, 1, none⟩ = some (.int .i64 0) := by rw [Lib.cell_of_heap hbk0]; rfl
  have f0 : W0.frozen? ⟨b, 0, none⟩ = false := Lib.frozen_of_heap hbk0 0
  have f1 : W0.frozen? ⟨b, 1, none⟩ = false := Lib.frozen_of_heap hbk0 1
  have HW0 := Lib.hid hW0
  clear hW0
  go_wp2_with (go_at_call 67; refine (tryGrow_none b _ 0 0 n _ c0 (Nat.le_refl _) (Nat.zero_le _) (by omega)).mono ?_; rintro e w' ⟨rfl, rfl⟩)
  have hbW := Lib.lt_of_heap hbk0
  have hwn : IntKind.i64.wrap (n : Int) = n := by rw [IntKind.wrap_i64]; omega
  go_region_with (
      go_at_call 70
      refine (growSlice_nil n _ hn hlim).mono ?_
      rintro e w2 ⟨cap2, cells, rfl, hN, hcsz, hcap2, hcm2, hbel⟩
      have hbk2 : w2.heap[b]? = some (.cells #[.slice none 0 0, .int .i64 0, .int .i8 lr] 43 (0, 0)) := (hbel.block b hbW).trans hbk0
      have d0 : w2.cell? ⟨b, 0, none⟩ = some (.slice none 0 0) := by rw [Lib.cell_of_heap hbk2]; rfl
      have d1 : w2.cell? ⟨b, 1, none⟩ = some (.int .i64 0) := by rw [Lib.cell_of_heap hbk2]; rfl
      have e0 : w2.frozen? ⟨b, 0, none⟩ = false := Lib.frozen_of_heap hbk2 0
      have e1 : w2.frozen? ⟨b, 1, none⟩ = false := Lib.frozen_of_heap hbk2 1)
  all_goals (
    go_wp2
    go_ret
    exact ⟨rfl, grew_end HW0.out (Nat.zero_add n).symm rfl hbk2 hbel hN hcsz (by simp) (by omega) hcm2⟩)

set_option maxHeartbeats 4000000 in
set_option maxRecDepth 100000 in
/-- grow, of a row. -/
theorem grow_row (b g l cap n : Nat) (lr : Int) (cur : Array Value) (bs : List Value) (w : World)
    (hbk : w.heap[b]? = some (.cells #[.slice (some ⟨g, 0, none⟩) l cap, .int .i64 0, .int .i8 lr] 43 (0, 0)))
    (hg : w.heap[g]? = some (.cells cur 5 (0, 0))) (hlc : l ≤ cap) (hcm : cap ≤ maxLen) (hcs : cur.size = cap) (htake : cur.toList.take l = bs)
    (h1 : ∀ v ∈ bs, v.oneCell' = true) (hl : 1 ≤ l) (hn : 1 ≤ n) (hroom : cap - l < n) (hlim : l + n ≤ 140737488355328) :
    Calls Tryd.prog 68 #[.pointer (some ⟨b, 0, none⟩), .int .i64 n] w fun e w' => e = .returned (.int .i64 l) ∧ Grew b l n bs lr w w' := by
  have hnil : ∀ W, (binOp .eql 24 (.slice (some ⟨g, 0, none⟩) l cap) (.slice none 0 0)).run Tryd.prog W = .ok (.bool false) W := fun W => Lib.run_eql_slice_some_nil W _ _ _ Tryd.underlying24
  have c0 : w.cell? ⟨b, 0, none⟩ = some (.slice (some ⟨g, 0, none⟩) l cap) := by rw [Lib.cell_of_heap hbk]; rfl
  have c1 : w.cell? ⟨b, 1, none⟩ = some (.int .i64 0) := by rw [Lib.cell_of_heap hbk]; rfl
  go_enter Tryd.func68, Tryd.ntmps68
  go_wp2_with (go_at_call 69; refine (len_any b _ l cap _ c0 c1 (by omega)).mono ?_)
  rintro e W0 ⟨rfl, k, hW0⟩
  have hbk0 : W0.heap[b]? = some (.cells #[.slice (some ⟨g, 0, none⟩) l cap, .int .i64 0, .int .i8 lr] 43 (0, 0)) := by rw [hW0]; exact hbk
  have hg0 : W0.heap[g]? = some (.cells cur 5 (0, 0)) := by rw [hW0]; exact hg
  clear c0 c1
  have c0 : W0.cell? ⟨b, 0, none⟩ = some (.slice (some ⟨g, 0, none⟩) l cap) := by rw [Lib.cell_of_heap hbk0]; rfl
  have c1 : W0.cell? ⟨b, 1, none⟩ = some (.int .i64 0) := by rw [Lib.cell_of_heap hbk0]; rfl
  have f0 : W0.frozen? ⟨b, 0, none⟩ = false := Lib.frozen_of_heap hbk0 0
  have f1 : W0.frozen? ⟨b, 1, none⟩ = false := Lib.frozen_of_heap hbk0 1
  have HW0 := Lib.hid hW0
  clear hW0
  have hcm' := hcm
  unfold maxLen at hcm'
  go_wp2_with (go_at_call 67; refine (tryGrow_none b _ l cap n _ c0 hlc hcm hroom).mono ?_; rintro e w' ⟨rfl, rfl⟩)
  have hc2 : cap ≤ 140737488355328 := by omega
  have h1' : ∀ v ∈ cur.toList.take l, v.oneCell' = true := by rw [htake]; exact h1
  have hbW := Lib.lt_of_heap hbk0
  have hwn : IntKind.i64.wrap (n : Int) = n := by rw [IntKind.wrap_i64]; omega
  go_region_with (
      go_at_call 70
      refine (growSlice_row g l cap n cur _ ?_ hcs hlc hn hlim hc2 h1').mono ?_
      exact hg0
      rintro e w2 ⟨cap2, cells, rfl, hN, hcsz, htk, hcap2, hcm2, hbel⟩
      have hbk2 : w2.heap[b]? = some (.cells #[.slice (some ⟨g, 0, none⟩) l cap, .int .i64 0, .int .i8 lr] 43 (0, 0)) := (hbel.block b hbW).trans hbk0
      have d0 : w2.cell? ⟨b, 0, none⟩ = some (.slice (some ⟨g, 0, none⟩) l cap) := by rw [Lib.cell_of_heap hbk2]; rfl
      have d1 : w2.cell? ⟨b, 1, none⟩ = some (.int .i64 0) := by rw [Lib.cell_of_heap hbk2]; rfl
      have e0 : w2.frozen? ⟨b, 0, none⟩ = false := Lib.frozen_of_heap hbk2 0
      have e1 : w2.frozen? ⟨b, 1, none⟩ = false := Lib.frozen_of_heap hbk2 1)
  all_goals (
    go_wp2
    go_ret
    exact ⟨rfl, grew_end HW0.out rfl rfl hbk2 hbel hN hcsz (htk.trans htake) (by omega) hcm2⟩)
end Go.Proofs.Qxb6614495aDoor
