/-
  The law's main way: the name is short.
-/
import Derived.Test.Qxb6614544aBuilder
import Derived.LaidEqlPtr
namespace Go.Proofs.Qxb6614544a
open Go.RowKit Go.WideMaps Go.Maps Go.WideElems

theorem info52' : ((Try.prog.info? 52).map fun j => j.size != 0) = some true := by kernel_rfl
theorem info52 : ∃ j, Try.prog.info? 52 = some j ∧ j.size ≠ 0 := by
  have h := info52'
  cases e : Try.prog.info? 52 with
  | none => rw [e] at h; simp at h
  | some j => rw [e] at h; exact ⟨j, rfl, by simpa using h⟩

set_option maxRecDepth 100000 in
set_option maxHeartbeats 1000000 in
theorem main_way (a0 : ByteArray) (a1 : Int) (hf : fits a0 = true) (w0 : a0.size ≤ maxLen) (w1 : (Lit.int .u64 a1).wf = true) (h0 : a0.size ≤ 65536) (w : World) :
    Calls Try.prog 3 #[.string a0, .int .u64 a1] w fun e w' => e = .returned (.bool true) ∧ Grown w w' := by
  have hq : ∀ (w : World) (r : Option Nat), (binOp .eql 27 (.map r) (.map none)).run Try.prog w = .ok (.bool r.isNone) w := fun w r => run_eql_map_nil w _ _ _ r Try.underlying27
  have z1 : (newB w).heap.size = w.heap.size + 3 := newB_size w
  have m1 : Hid ((newB (newB w)).heap[w.heap.size]? = some (.map #[] 0)) := (newB_old _ _ (by omega)).trans (newB_names w)
  have m2 : Hid ((newB (newB w)).heap[(newB w).heap.size]? = some (.map #[] 0)) := newB_names (newB w)
  have c1 : Hid ((newB (newB w)).heap[w.heap.size + 2]? = some (.cells #[.slice none 0 0, .map (some w.heap.size), .slice none 0 0, .map (some (w.heap.size + 1)), .int .i64 0] 52)) :=
    (newB_old _ _ (by omega)).trans (newB_builder w)
  have c2 : Hid ((newB (newB w)).heap[(newB w).heap.size + 2]? = some (.cells #[.slice none 0 0, .map (some (newB w).heap.size), .slice none 0 0, .map (some ((newB w).heap.size + 1)), .int .i64 0] 52)) := newB_builder (newB w)
  have n1 : Hid ((newB (newB w)).heap[w.heap.size + 1]? = some (.map #[] 0)) := (newB_old _ _ (by omega)).trans (newB_holders w)
  have n2 : Hid ((newB (newB w)).heap[(newB w).heap.size + 1]? = some (.map #[] 0)) := newB_holders (newB w)
  have Z1 : Hid ((newB w).heap.size = w.heap.size + 3) := z1
  have hp : (binOp .eql 24 (.pointer (some ⟨w.heap.size + 2, 0, none⟩)) (.pointer (some ⟨(newB w).heap.size + 2, 0, none⟩))).run Try.prog (newB (newB w)) = .ok (.bool false) (newB (newB w)) := by
    obtain ⟨j, hj, hs⟩ := info52
    exact run_eql_ptr_other _ Try.underlying24 hj hs (by simp [z1]) c1.out c2.out
  clear z1
  go_enter Try.func3, Try.ntmps3
  go_wp2_with (first
    | (go_at_call 6; refine (zz_any _ _ _ w0).mono ?_; rintro e w' ⟨rfl, hw⟩; replace hw := hw.symm; subst hw)
    | (go_at_call 7; refine (new_any _).mono ?_; rintro e w' ⟨rfl, rfl⟩))
  refine (fields_block _ _ _ _ c1.out n1.out).mono ?_
  rintro e w' ⟨rfl, k1, rfl⟩
  go_wp2_with fail
  refine (fields_block _ _ _ ((newB (newB w)).drewN k1) c2.out n2.out).mono ?_
  rintro e w' ⟨rfl, k2, rfl⟩
  obtain ⟨W1, hput, hg, hfz, hlk, hlen⟩ := put_empty ((newB (newB w)).drewN (k1 + k2)) w.heap.size m1.out a0 w0 a1 w1
  have hb2 : Hid (W1.heap[(newB w).heap.size]? = some (.map #[] 0)) := (hg.block _ (by have := newB_size (newB w); simp; omega) (by have := Z1.out; simp; omega)).trans m2.out
  have hlk2 := look_empty W1 _ hb2.out a0 w0
  have hlen2 : ∀ ty, (Builtin.len_ #[27] ty #[.map (some (newB w).heap.size)]).run Try.prog W1 = .ok (.int .i64 0) W1 := fun ty => run_len_map W1 27 ty _ #[] 0 (by kernel_rfl) hb2.out
  have hG : Hid (Grown w W1) := grown_by (grown_drewN (newB_grown (newB_grown (Grown.refl w))) (k1 + k2)) (Nat.le_refl _) hg hfz
  clear hg hfz
  go_wp2
  go_ret
  exact ⟨rfl, hG.out⟩
end Go.Proofs.Qxb6614544a
