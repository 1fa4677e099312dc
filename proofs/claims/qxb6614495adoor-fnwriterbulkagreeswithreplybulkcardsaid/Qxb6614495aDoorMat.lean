/-
  A slice of byte slices, as it reads in a world; zzBytes over it.
-/
import Derived.Test.Qxb6614495aDoorRows
import Derived.WalkKit
import Derived.WalkSpells
import Derived.Below
namespace Go.Proofs.Qxb6614495aDoor
open Go.RowKit

theorem ret_bool {a b : Bool} (h : a = b) : Ending.returned (.bool a) = .returned (.bool b) := by rw [h]
theorem ret_int {k : IntKind} {a b : Int} (h : a = b) : Ending.returned (.int k a) = .returned (.int k b) := by rw [h]

/-- u is a slice that reads, in w, as the bytes l. -/
def BytesAt (w : World) (u : Value) (l : List Int) : Prop :=
  ∃ a n c, u = .slice a n c ∧ l.length = n ∧ n ≤ c ∧ c ≤ maxLen ∧ (a = none → c = 0) ∧ ∀ j x, l[j]? = some x → 0 ≤ x ∧ x ≤ 255 ∧ ∃ b o, a = some ⟨b, o, none⟩ ∧ w.cell? ⟨b, o + j, none⟩ = some (.int .u8 x)

/-- v is a slice of slices that reads, in w, as the lists L. -/
def Mat (w : World) (v : Value) (L : List (List Int)) : Prop :=
  ∃ a n c, v = .slice a n c ∧ L.length = n ∧ n ≤ c ∧ c ≤ maxLen ∧ ∀ i l, L[i]? = some l → ∃ b o u, a = some ⟨b, o, none⟩ ∧ w.cell? ⟨b, o + i, none⟩ = some u ∧ BytesAt w u l

theorem BytesAt.same {w w' : World} {u : Value} {l : List Int} (h : BytesAt w u l) (hb : ∀ k, k < w.heap.size → w'.heap[k]? = w.heap[k]?) : BytesAt w' u l := by
  obtain ⟨a, n, c, rfl, h1, h2, h3, h0, h4⟩ := h
  refine ⟨a, n, c, rfl, h1, h2, h3, h0, fun j x hj => ?_⟩
  obtain ⟨p, q, b, o, e, hc⟩ := h4 j x hj
  exact ⟨p, q, b, o, e, (World.cell?_of_block (hb b (World.block_lt_of_cell? w _ hc))).trans hc⟩
theorem Mat.same {w w' : World} {v : Value} {L : List (List Int)} (h : Mat w v L) (hb : ∀ k, k < w.heap.size → w'.heap[k]? = w.heap[k]?) : Mat w' v L := by
  obtain ⟨a, n, c, rfl, h1, h2, h3, h4⟩ := h
  refine ⟨a, n, c, rfl, h1, h2, h3, fun i l hi => ?_⟩
  obtain ⟨b, o, u, e, hc, hB⟩ := h4 i l hi
  exact ⟨b, o, u, e, (World.cell?_of_block (hb b (World.block_lt_of_cell? w _ hc))).trans hc, hB.same hb⟩

/-- How many bytes in all. -/
def sumLen (L : List (List Int)) : Nat := (L.map List.length).sum
theorem sumLen_take_succ (L : List (List Int)) (k : Nat) (l : List Int) (h : L[k]? = some l) : sumLen (L.take (k + 1)) = sumLen (L.take k) + l.length := by
  unfold sumLen
  have hk : k < L.length := (List.getElem?_eq_some_iff.1 h).1
  have e : L[k] = l := (List.getElem?_eq_some_iff.1 h).2
  rw [List.take_succ_eq_append_getElem hk, e]; simp
theorem sumLen_take_le (L : List (List Int)) (k : Nat) : sumLen (L.take k) ≤ sumLen L := by
  have h : sumLen L = sumLen (L.take k) + sumLen (L.drop k) := by unfold sumLen; rw [← List.sum_append, ← List.map_append, List.take_append_drop]
  omega
theorem sumLen_all (L : List (List Int)) : sumLen (L.take L.length) = sumLen L := by rw [List.take_length]
def small (L : List (List Int)) : Bool := decide (L.length + sumLen L ≤ 1048576)

set_option maxHeartbeats 1000000 in
/-- zzBytes_FnReplyWritesWhatWasAdded. -/
theorem zz15 (v : Value) (L : List (List Int)) (w : World) (h : Mat w v L) :
    Calls Tryd.prog 15 #[v] w fun e w' => e = .returned (.bool (small L)) ∧ w' = w := by
  obtain ⟨a, n, c, rfl, hl, hnc, hcm, hM⟩ := h
  unfold maxLen at hcm
  by_cases hbig : 1048576 < n
  · have e : small L = false := decide_eq_false (by omega)
    rw [e]
    go_enter Tryd.func15, Tryd.ntmps15
    go_wp2
    go_ret
    exact ⟨rfl, rfl⟩
  go_enter Tryd.func15, Tryd.ntmps15
  go_wp2
  go_loop [3, 4] (fun z i => ∃ k : Nat, k ≤ n ∧ i = .int .i64 k ∧ z = .int .i64 ((n + sumLen (L.take k) : Nat) : Int) ∧ n + sumLen (L.take k) ≤ 1048576) (fun _ i => n - (intOf i).toNat)
  case atStart => exact ⟨0, Nat.zero_le _, rfl, by simp [sumLen], by simp [sumLen]; omega⟩
  case round =>
    obtain ⟨k, hk, rfl, rfl, hz⟩ := hrel
    by_cases hlt : k < n
    · obtain ⟨l, hlk⟩ : ∃ l, L[k]? = some l := ⟨_, List.getElem?_eq_getElem (by omega)⟩
      obtain ⟨b, o, u, rfl, hcell, a', n', c', rfl, hl', hnc', hcm', -, -⟩ := hM k l hlk
      have hsn := sumLen_take_succ L k l hlk
      have hle := sumLen_take_le L (k + 1)
      unfold maxLen at hcm'
      rw [hl'] at hsn
      have HSN : Hid (sumLen (L.take (k + 1)) = sumLen (L.take k) + n') := hsn
      generalize hq : sumLen (L.take k) = q at *
      by_cases hov : n + q + n' ≤ 1048576
      · clear hsn hle hM
        go_wp2
        go_round
        case rel => exact ⟨k + 1, by omega, by go_num, by rw [HSN.out]; go_num, by rw [HSN.out]; omega⟩
        case measure => simp [intOf]; omega
      · have e : small L = false := decide_eq_false (by omega)
        clear hsn hle hM
        go_wp2
        all_goals (go_ret; exact ⟨rfl, rfl⟩)
    · have e : small L = true := decide_eq_true (by
        have : k = L.length := by omega
        rw [this, sumLen_all] at hz; omega)
      clear hM
      go_wp2
      go_ret
      exact ⟨rfl, rfl⟩
end Go.Proofs.Qxb6614495aDoor
