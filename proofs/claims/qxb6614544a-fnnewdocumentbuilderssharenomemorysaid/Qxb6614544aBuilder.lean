/-
  The callees of the law: zzBytes, NewDocumentBuilder, ZZdocumentBuilderFields; the two maps.
-/
import Derived.Test.Qxb6614544aRows
import Derived.WalkKit
import Derived.WalkSpells
import Derived.RowKit3
import Derived.Below
import Derived.BigQuiet
import Derived.Deep.QuietTactic
import Derived.Maps.OwnSet
namespace Go.Proofs.Qxb6614544a
open Go.RowKit Go.WideMaps Go.Maps Go.WideElems
open Go.ChangeMaps (setBlock heap_setBlock_same heap_setBlock_other frozen?_setBlock)

def fits (s : ByteArray) : Bool := decide (s.size ≤ 1048576)
theorem zz_any (s : ByteArray) (n : Int) (w : World) (hs : s.size ≤ maxLen) :
    Calls Try.prog 6 #[.string s, .int .u64 n] w fun e w' => e = .returned (.bool (fits s)) ∧ w' = w := by
  unfold maxLen at hs
  by_cases h : s.size ≤ 1048576
  · have e : fits s = true := decide_eq_true h
    rw [e]; clear e
    go_enter Try.func6, Try.ntmps6
    go_wp2
    go_ret
    exact ⟨rfl, rfl⟩
  · have e : fits s = false := decide_eq_false h
    rw [e]; clear e
    go_enter Try.func6, Try.ntmps6
    go_wp2
    go_ret
    exact ⟨rfl, rfl⟩

/-- The world behind NewDocumentBuilder: two new maps and the builder. -/
def newB (w : World) : World := ((w.alloc (.map #[] 0)).alloc (.map #[] 0)).alloc (.cells #[.slice none 0 0, .map (some w.heap.size), .slice none 0 0, .map (some (w.heap.size + 1)), .int .i64 0] 52)
theorem newB_size (w : World) : (newB w).heap.size = w.heap.size + 3 := by simp [newB]
theorem newB_old (w : World) (k : Nat) (h : k < w.heap.size) : (newB w).heap[k]? = w.heap[k]? := by
  unfold newB
  rw [Below.heap_alloc _ _ _ (by simp; omega), Below.heap_alloc _ _ _ (by simp; omega), Below.heap_alloc _ _ _ h]
theorem newB_names (w : World) : (newB w).heap[w.heap.size]? = some (.map #[] 0) := by
  unfold newB
  rw [Below.heap_alloc _ _ _ (by simp; omega), Below.heap_alloc _ _ _ (by simp)]
  exact heap_alloc_new w _
theorem newB_holders (w : World) : (newB w).heap[w.heap.size + 1]? = some (.map #[] 0) := by
  unfold newB
  rw [Below.heap_alloc _ _ _ (by simp)]
  have := heap_alloc_new (w.alloc (.map #[] 0)) (.map #[] 0)
  simpa using this
theorem newB_builder (w : World) : (newB w).heap[w.heap.size + 2]? = some (.cells #[.slice none 0 0, .map (some w.heap.size), .slice none 0 0, .map (some (w.heap.size + 1)), .int .i64 0] 52) := by
  unfold newB
  have := heap_alloc_new ((w.alloc (.map #[] 0)).alloc (.map #[] 0)) (.cells #[.slice none 0 0, .map (some w.heap.size), .slice none 0 0, .map (some (w.heap.size + 1)), .int .i64 0] 52)
  simpa using this
theorem newB_grown {W w : World} (h : Grown W w) : Grown W (newB w) := ((h.allocMap _ _).allocMap _ _).alloc _ _

theorem new_any (w : World) :
    Calls Try.prog 7 #[] w fun e w' => e = .returned (.pointer (some ⟨w.heap.size + 2, 0, none⟩)) ∧ w' = newB w := by
  unfold newB
  have hmm := @run_makeMap Try.prog
  go_enter Try.func7, Try.ntmps7
  go_wp2
  go_ret
  exact ⟨rfl, rfl⟩

theorem fields_any (b : Nat) (m h : Nat) (w : World) 
   (c0 : w.cell? ⟨b, 0, none⟩ = some (.slice none 0 0)) (c1 : w.cell? ⟨b, 1, none⟩ = some (.map (some m))) (c2 : w.cell? ⟨b, 2, none⟩ = some (.slice none 0 0)) (c3 : w.cell? ⟨b, 3, none⟩ = some (.map (some h))) (c4 : w.cell? ⟨b, 4, none⟩ = some (.int .i64 0))
   (hh : w.heap[h]? = some (.map #[] 0)) :
    Calls Try.prog 8 #[.pointer (some ⟨b, 0, none⟩)] w fun e w' => e = .returned (.tuple #[.slice none 0 0, .map (some m), .slice none 0 0, .int .i64 0, .bool true, .int .i64 0]) ∧ ∃ n, w' = w.drewN n := by
  have hl : ∀ n ty, (Builtin.len_ #[50] ty #[.map (some h)]).run Try.prog (w.drewN n) = .ok (.int .i64 0) (w.drewN n) := fun n ty => run_len_map (w.drewN n) 50 ty h #[] 0 (by kernel_rfl) hh
  clear hh
  have hq : ∀ (w : World) (r : Option Nat), (binOp .neq 50 (.map r) (.map none)).run Try.prog w = .ok (.bool (!r.isNone)) w := fun w r => run_neq_map_nil w _ _ _ r Try.underlying50
  go_enter Try.func8, Try.ntmps8
  go_wp2
  go_quiet (fail)
  go_wp2
  exact bodyPost_ret (v := .tuple #[.slice none 0 0, .map (some m), .slice none 0 0, .int .i64 0, .bool true, .int .i64 0]) (by simp [results, Try.results8, go_sem]) rfl ⟨rfl, nq, rfl⟩

/-! ### The two maps -/
theorem law : Keyed Try.prog 9 := string_keyed Try.underlying9
theorem zero22 (w : World) : (zeroValue 22).run Try.prog w = .ok (.int .u64 0) w := by kernel_rfl
theorem fit_empty : Fit Try.prog 9 (plainElem (H := Unit) Try.prog 22) #[] 0 := ⟨by simp, MapKept.stamped_empty 0, by simp⟩

/-- An empty map: the key is not there. -/
theorem look_empty (W : World) (b : Nat) (hb : W.heap[b]? = some (.map #[] 0)) (s : ByteArray) (hs : s.size ≤ maxLen) :
    (Instr.lookup 27 (.map (some b)) (.string s) true).run Try.prog W = .ok (.tuple #[.int .u64 0, .bool false]) W := by
  rcases Maps.fit_look true law Try.underlying27 (zero22 W) hb fit_empty (keyOf_string_mk Try.underlying9 hs) with ⟨hrun, _, _⟩ | ⟨e0, _, he, _⟩
  · exact hrun
  · simp at he

/-- 'm[s] = n' into an empty map. -/
theorem put_empty (W : World) (b : Nat) (hb : W.heap[b]? = some (.map #[] 0)) (s : ByteArray) (hs : s.size ≤ maxLen) (n : Int) (hn : (Lit.int .u64 n).wf = true) :
    ∃ W1, (Instr.mapUpdate 27 (.map (some b)) (.string s) (.int .u64 n)).run Try.prog W = .ok () W1 ∧ W.grownBy W1 (some b) ∧ (∀ a, W1.frozen? a = W.frozen? a) ∧
      (Instr.lookup 27 (.map (some b)) (.string s) true).run Try.prog W1 = .ok (.tuple #[.int .u64 n, .bool true]) W1 ∧
      ∀ ty, (Builtin.len_ #[27] ty #[.map (some b)]).run Try.prog W1 = .ok (.int .i64 1) W1 := by
  have hkey := keyOf_string_mk Try.underlying9 hs
  obtain ⟨es', clock', hrun, F', hput, _, _, hall⟩ := Maps.fit_store (R' := plainElem (H := Unit) Try.prog 22) law Try.underlying27 hb fit_empty (by decide) (fun _ _ _ _ hz => hz) hkey (plainElem_int Try.underlying22 hn)
  have hsz : es'.size = 1 := by
    rw [← length_read (P := Try.prog) (k := 9) (R0 := plainElem (H := Unit) Try.prog 22) es', hput]; rfl
  have hb1 := heap_setBlock_same hb (.map es' clock')
  refine ⟨_, hrun, ⟨rfl, rfl, rfl, by simp [setBlock], fun i _ hi => heap_setBlock_other hb _ (fun e => hi (by rw [e]))⟩, frozen?_setBlock hb, ?_, fun ty => ?_⟩
  · rcases Maps.fit_look true law Try.underlying27 (zero22 _) hb1 F' hkey with ⟨_, hno, _⟩ | ⟨e0, _, he, _, hrun', _⟩
    · have h0 : 0 < es'.toList.length := by simp [hsz]
      have hm := List.getElem_mem h0
      rcases hall _ hm with ⟨h1, _⟩ | ⟨h1, _⟩
      · simp at h1
      · exact absurd h1 (hno _ hm)
    · rcases hall _ he with ⟨h1, _⟩ | ⟨_, h2⟩
      · simp at h1
      · rw [h2] at hrun'; exact hrun'
  · have := run_len_map _ 27 ty b es' clock' (by kernel_rfl : Try.prog.underlying 27 = some (.map (Try.prog.mapKeyOf 27) (Try.prog.mapElemOf 27))) hb1
    rw [hsz] at this; exact this

/-- Grown, over a turn of a new block. -/
theorem grown_by {W w w1 : World} {b : Nat} (h : Grown W w) (hb : W.heap.size ≤ b) (hg : w.grownBy w1 (some b)) (hf : ∀ a, w1.frozen? a = w.frozen? a) : Grown W w1 := by
  obtain ⟨⟨k1, k2, k3⟩, k4, k5⟩ := h
  refine ⟨⟨hg.os.trans k1, hg.output.trans k2, fun i hi => ?_⟩, fun a => (hf a).trans (k4 a), Nat.le_trans k5 hg.size⟩
  have := k3 i hi
  rw [hg.block i (by omega) (by simp; omega)]
  exact this
theorem grown_drewN {W w : World} (h : Grown W w) (n : Nat) : Grown W (w.drewN n) := h

/-- ZZdocumentBuilderFields, of a builder that NewDocumentBuilder made: read off the block. -/
theorem fields_block (b : Nat) (m h : Nat) (w : World) (hc : w.heap[b]? = some (.cells #[.slice none 0 0, .map (some m), .slice none 0 0, .map (some h), .int .i64 0] 52)) (hh : w.heap[h]? = some (.map #[] 0)) :
    Calls Try.prog 8 #[.pointer (some ⟨b, 0, none⟩)] w fun e w' => e = .returned (.tuple #[.slice none 0 0, .map (some m), .slice none 0 0, .int .i64 0, .bool true, .int .i64 0]) ∧ ∃ n, w' = w.drewN n :=
  fields_any b m h w (by simp [World.cell?, hc]) (by simp [World.cell?, hc]) (by simp [World.cell?, hc]) (by simp [World.cell?, hc]) (by simp [World.cell?, hc]) hh
end Go.Proofs.Qxb6614544a
