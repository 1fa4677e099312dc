/-
  ZZnewSink (NewWriter, NewWriterSize), ZZsinkWriter, ZZsinkBytes.
-/
import Derived.Test.Qxb6614495aDoorFlush
namespace Go.Proofs.Qxb6614495aDoor
open Go.RowKit

/-- 'make([]byte, 16384)', its cells under a name. -/
def zrow : Array Value := madeCells (Value.int .u8 0).cells 16384
theorem zrow_size : zrow.size = 16384 := size_madeCells _ _
theorem make_zrow (W : World) : (Instr.makeSlice 24 (.int .i64 16384) (.int .i64 16384)).run Tryd.prog W = .ok (.slice (some ⟨W.heap.size, 0, none⟩) 16384 16384) (W.alloc (.cells zrow 5)) := by
  obtain ⟨i0, hi, hz0, hz1, hz2⟩ := info_parts info5
  have h := run_make (P := Tryd.prog) W 24 5 i0 (.int .u8 0) Tryd.underlying24 hi hz0 .i64 .i64 16384 16384 (by decide) (by decide) (by rw [hz2]; decide) (by decide)
  rw [hz1] at h
  exact h

set_option maxRecDepth 100000 in
/-- bufio.NewWriterSize over a *bytes.Buffer. -/
theorem newSize_any (b : Nat) (w : World) :
    Calls Tryd.prog 25 #[.iface 39 (.pointer (some ⟨b, 0, none⟩)), .int .i64 16384] w fun e w' => e = .returned (.pointer (some ⟨w.heap.size + 1, 0, none⟩)) ∧
      w' = (w.alloc (.cells zrow 5)).alloc (.cells #[.nilIface, .slice (some ⟨w.heap.size, 0, none⟩) 16384 16384, .int .i64 0, .iface 39 (.pointer (some ⟨b, 0, none⟩))] 68) := by
  have hmk := make_zrow
  have hta : ∀ W : World, (Instr.typeAssert (.iface 39 (.pointer (some ⟨b, 0, none⟩))) 64 50 true).run Tryd.prog W = .ok (.tuple #[.pointer none, .bool false]) W := fun W => by kernel_rfl
  go_enter Tryd.func25, Tryd.ntmps25
  go_wp2
  go_ret
  exact ⟨rfl, rfl⟩

/-- NewWriter. -/
theorem newWriter_any (b : Nat) (w : World) :
    Calls Tryd.prog 17 #[.iface 39 (.pointer (some ⟨b, 0, none⟩))] w fun e w' => e = .returned (.pointer (some ⟨w.heap.size + 2, 0, none⟩)) ∧
      w' = ((w.alloc (.cells zrow 5)).alloc (.cells #[.nilIface, .slice (some ⟨w.heap.size, 0, none⟩) 16384 16384, .int .i64 0, .iface 39 (.pointer (some ⟨b, 0, none⟩))] 68)).alloc (.cells #[.pointer (some ⟨w.heap.size + 1, 0, none⟩)] 52) := by
  go_enter Tryd.func17, Tryd.ntmps17
  go_wp2_with (go_at_call 25; refine (newSize_any b _).mono ?_; rintro e w' ⟨rfl, rfl⟩)
  go_ret
  exact ⟨rfl, rfl⟩

/-- The world behind ZZnewSink: the buffer, the writer's row, the bufio.Writer, the Writer, the sink. -/
def sinkW (w : World) : World :=
  ((((w.alloc (.cells #[.slice none 0 0, .int .i64 0, .int .i8 0] 43)).alloc (.cells zrow 5)).alloc (.cells #[.nilIface, .slice (some ⟨w.heap.size + 1, 0, none⟩) 16384 16384, .int .i64 0, .iface 39 (.pointer (some ⟨w.heap.size, 0, none⟩))] 68)).alloc
    (.cells #[.pointer (some ⟨w.heap.size + 2, 0, none⟩)] 52)).alloc (.cells #[.pointer (some ⟨w.heap.size + 3, 0, none⟩), .pointer (some ⟨w.heap.size, 0, none⟩)] 46)

theorem newSink_any (w : World) :
    Calls Tryd.prog 7 #[] w fun e w' => e = .returned (.pointer (some ⟨w.heap.size + 4, 0, none⟩)) ∧ w' = sinkW w := by
  unfold sinkW
  go_enter Tryd.func7, Tryd.ntmps7
  go_wp2_with (go_at_call 17; refine (newWriter_any w.heap.size _).mono ?_; rintro e w' ⟨rfl, rfl⟩)
  go_ret
  exact ⟨rfl, rfl⟩

theorem sinkW_size (w : World) : (sinkW w).heap.size = w.heap.size + 5 := by simp [sinkW]
theorem sinkW_old (w : World) (k : Nat) (h : k < w.heap.size) : (sinkW w).heap[k]? = w.heap[k]? := by
  unfold sinkW
  rw [Below.heap_alloc _ _ _ (by simp; omega), Below.heap_alloc _ _ _ (by simp; omega), Below.heap_alloc _ _ _ (by simp; omega), Below.heap_alloc _ _ _ (by simp; omega), Below.heap_alloc _ _ _ h]
theorem sinkW_below (w : World) : Below w.heap.size w (sinkW w) := ⟨rfl, rfl, rfl, by rw [sinkW_size]; omega, sinkW_old w⟩
theorem new_at {W : World} {o : Obj} {k : Nat} (h : k = W.heap.size) : (W.alloc o).heap[k]? = some o := by rw [h]; exact heap_alloc_new W o
theorem sinkW_0 (w : World) : (sinkW w).heap[w.heap.size]? = some (.cells #[.slice none 0 0, .int .i64 0, .int .i8 0] 43) := by
  unfold sinkW
  rw [Below.heap_alloc _ _ _ (by simp; omega), Below.heap_alloc _ _ _ (by simp; omega), Below.heap_alloc _ _ _ (by simp; omega), Below.heap_alloc _ _ _ (by simp)]
  exact heap_alloc_new w _
theorem sinkW_1 (w : World) : (sinkW w).heap[w.heap.size + 1]? = some (.cells zrow 5) := by
  unfold sinkW
  rw [Below.heap_alloc _ _ _ (by simp), Below.heap_alloc _ _ _ (by simp), Below.heap_alloc _ _ _ (by simp)]
  exact new_at (by simp)
theorem sinkW_2 (w : World) : (sinkW w).heap[w.heap.size + 2]? = some (.cells #[.nilIface, .slice (some ⟨w.heap.size + 1, 0, none⟩) 16384 16384, .int .i64 0, .iface 39 (.pointer (some ⟨w.heap.size, 0, none⟩))] 68) := by
  unfold sinkW
  rw [Below.heap_alloc _ _ _ (by simp), Below.heap_alloc _ _ _ (by simp)]
  exact new_at (by simp)
theorem sinkW_3 (w : World) : (sinkW w).heap[w.heap.size + 3]? = some (.cells #[.pointer (some ⟨w.heap.size + 2, 0, none⟩)] 52) := by
  unfold sinkW
  rw [Below.heap_alloc _ _ _ (by simp)]
  exact new_at (by simp)
theorem sinkW_4 (w : World) : (sinkW w).heap[w.heap.size + 4]? = some (.cells #[.pointer (some ⟨w.heap.size + 3, 0, none⟩), .pointer (some ⟨w.heap.size, 0, none⟩)] 46) := by
  unfold sinkW
  exact new_at (by simp)
theorem sinkW_sink (w : World) : Sink w.heap.size (w.heap.size + 1) (w.heap.size + 2) [] [] (.slice none 0 0) (sinkW w) :=
  ⟨⟨⟨0, sinkW_0 w⟩, .inl ⟨rfl, rfl⟩⟩, fun u hu => by simp at hu, sinkW_2 w, ⟨zrow, sinkW_1 w, zrow_size, rfl⟩, Nat.zero_le _, fun u hu => by simp at hu, by simp [Value.ownBlock]⟩

/-- ZZsinkWriter. -/
theorem sinkWriter_any (S x y : Nat) (w : World) (h : w.heap[S]? = some (.cells #[.pointer (some ⟨x, 0, none⟩), .pointer (some ⟨y, 0, none⟩)] 46)) :
    Calls Tryd.prog 8 #[.pointer (some ⟨S, 0, none⟩)] w fun e w' => e = .returned (.pointer (some ⟨x, 0, none⟩)) ∧ w' = w := by
  have c0 : w.cell? ⟨S, 0, none⟩ = some (.pointer (some ⟨x, 0, none⟩)) := by rw [Lib.cell_of_heap h]; rfl
  clear h
  go_enter Tryd.func8, Tryd.ntmps8
  go_wp2
  go_ret
  exact ⟨rfl, rfl⟩

/-- ZZsinkBytes. -/
theorem sinkBytes_any (b R s x S : Nat) (bs pend : List Value) (v : Value) (w : World) (h : Sink b R s bs pend v w) (hlim : bs.length + pend.length ≤ 140737488355328)
    (hS : w.heap[S]? = some (.cells #[.pointer (some ⟨x, 0, none⟩), .pointer (some ⟨b, 0, none⟩)] 46)) (hx : w.heap[x]? = some (.cells #[.pointer (some ⟨s, 0, none⟩)] 52)) :
    Calls Tryd.prog 10 #[.pointer (some ⟨S, 0, none⟩)] w fun e w' => ∃ v', e = .returned v' ∧ BufAt b (bs ++ pend) v' w' ∧ Moves b R s v v' w w' := by
  have c0 : w.cell? ⟨S, 0, none⟩ = some (.pointer (some ⟨x, 0, none⟩)) := by rw [Lib.cell_of_heap hS]; rfl
  have c1 : w.cell? ⟨x, 0, none⟩ = some (.pointer (some ⟨s, 0, none⟩)) := by rw [Lib.cell_of_heap hx]; rfl
  have hcold : Cold b R s v S := by
    obtain ⟨lr, hb⟩ := h.buf.blk
    obtain ⟨cur, hR, _⟩ := h.row
    refine ⟨ne_of_types hS hb (by decide), ne_of_types hS hR (by decide), ne_of_types hS h.str (by decide), ?_⟩
    rcases h.buf.row with ⟨rfl, _⟩ | ⟨g, cap, cg, rfl, _, hg, _⟩
    · simp [Value.ownBlock]
    · simp only [Value.ownBlock, ne_eq, Option.some.injEq]; exact (ne_of_types hS hg (by decide)).symm
  have HS : Hid (w.heap[S]? = some (.cells #[.pointer (some ⟨x, 0, none⟩), .pointer (some ⟨b, 0, none⟩)] 46)) := hS
  clear hS hx
  go_enter Tryd.func10, Tryd.ntmps10
  go_wp2_with (first
    | (go_at_call 22; refine (flush_any b R s bs pend v _ h hlim).mono ?_; rintro e W ⟨rfl, v', hF, hM⟩; have d1 : W.cell? ⟨S, 1, none⟩ = some (.pointer (some ⟨b, 0, none⟩)) := (by rw [Lib.cell_of_heap ((hM.block S (Array.getElem?_eq_some_iff.1 HS.out).1 hcold).trans HS.out)]; rfl))
    | (go_at_call 23; refine (bytes_any b _ v' _ hF.buf).mono ?_; rintro e W' ⟨rfl, k, rfl⟩))
  go_ret
  exact ⟨v', rfl, ⟨hF.buf.blk, hF.buf.row⟩, hM.drewN k⟩
end Go.Proofs.Qxb6614495aDoor
