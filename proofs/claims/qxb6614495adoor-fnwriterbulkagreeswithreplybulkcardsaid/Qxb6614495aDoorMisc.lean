/-
  zzBytes, decimalDigits, sameBytes.
-/
import Derived.Test.Qxb6614495aDoorMat
import Derived.BigQuiet
import Derived.Lib.ItoaNum
import Derived.Deep.Draws
import Derived.Deep.QuietTactic
namespace Go.Proofs.Qxb6614495aDoor
open Go.RowKit

set_option maxHeartbeats 1000000 in
/-- zzBytes_FnWriterBulkAgreesWithReplyBulk. -/
theorem zz5 (v : Value) (L : List (List Int)) (w : World) (h : Mat w v L) :
    Calls Tryd.prog 5 #[v] w fun e w' => e = .returned (.bool (small L)) ∧ w' = w := by
  obtain ⟨a, n, c, rfl, hl, hnc, hcm, hM⟩ := h
  unfold maxLen at hcm
  by_cases hbig : 1048576 < n
  · have e : small L = false := decide_eq_false (by omega)
    rw [e]
    go_enter Tryd.func5, Tryd.ntmps5
    go_wp2
    go_ret
    exact ⟨rfl, rfl⟩
  go_enter Tryd.func5, Tryd.ntmps5
  go_wp2
  go_loop [3, 4] (fun z i => ∃ k : Nat, k ≤ n ∧ i = .int .i64 k ∧ z = .int .i64 ((n + sumLen (L.take k) : Nat) : Int) ∧ n + sumLen (L.take k) ≤ 1048576) (fun _ i => n - (intOf i).toNat)
  case atStart => exact ⟨0, Nat.zero_le _, rfl, by simp [sumLen], by simp [sumLen]; omega⟩
  case round =>
    obtain ⟨k, hk, rfl, rfl, hz⟩ := hrel
    by_cases hlt : k < n
    · obtain ⟨l, hlk⟩ : ∃ l, L[k]? = some l := ⟨_, List.getElem?_eq_getElem (by omega)⟩
      obtain ⟨b, o, u, rfl, hcell, a', n', c', rfl, hl', hnc', hcm', -, -⟩ := hM k l hlk
      have hsn := sumLen_take_succ L k l hlk
      have hle := sumLen_take_le L (k + 1)
      unfold maxLen at hcm'
      rw [hl'] at hsn
      have HSN : Hid (sumLen (L.take (k + 1)) = sumLen (L.take k) + n') := hsn
      generalize hq : sumLen (L.take k) = q at *
      by_cases hov : n + q + n' ≤ 1048576
      · clear hsn hle hM
        go_wp2
        go_round
        case rel => exact ⟨k + 1, by omega, by go_num, by rw [HSN.out]; go_num, by rw [HSN.out]; omega⟩
        case measure => simp [intOf]; omega
      · have e : small L = false := decide_eq_false (by omega)
        clear hsn hle hM
        go_wp2
        all_goals (go_ret; exact ⟨rfl, rfl⟩)
    · have e : small L = true := decide_eq_true (by
        have : k = L.length := by omega
        rw [this, sumLen_all] at hz; omega)
      clear hM
      go_wp2
      go_ret
      exact ⟨rfl, rfl⟩

/-- decimalDigits. -/
theorem digits_any (n : Nat) (hn : n ≤ 1048576) (w : World) :
    Calls Tryd.prog 13 #[.int .i64 n] w fun e w' => e = .returned (.int .i64 (Lib.nDigits n)) ∧ w' = w := by
  go_enter Tryd.func13, Tryd.ntmps13
  go_wp2
  go_loop [0, 3] (fun t d => ∃ q k : Nat, t = .int .i64 q ∧ d = .int .i64 k ∧ q ≤ 1048576 ∧ k + q ≤ 1048577 ∧ Hid (Lib.nDigits n = k - 1 + Lib.nDigits q ∧ 1 ≤ k)) (fun t _ => (intOf t).toNat)
  case atStart => exact ⟨n, 1, rfl, rfl, hn, by omega, (⟨by omega, Nat.le_refl _⟩ : Lib.nDigits n = 1 - 1 + Lib.nDigits n ∧ 1 ≤ 1)⟩
  case round =>
    obtain ⟨q, k, rfl, rfl, hq, hk, HN⟩ := hrel
    by_cases h10 : q < 10
    · go_wp2
      go_ret
      obtain ⟨e1, e2⟩ := HN.out
      refine ⟨?_, rfl⟩
      rw [e1, Lib.nDigits_small h10, Nat.sub_add_cancel e2]
      rfl
    · have hge : (10 : Int) ≤ (q : Int) := by omega
      have HN2 : Hid (Lib.nDigits n = k + 1 - 1 + Lib.nDigits (q / 10) ∧ 1 ≤ k + 1) := by
        obtain ⟨e1, e2⟩ := HN.out
        refine ⟨?_, by omega⟩
        rw [e1, Lib.nDigits_big h10]; omega
      clear HN
      go_wp2
      refine ⟨⟨q / 10, k + 1, by rw [Int.natCast_ediv]; rfl, by rw [Int.natCast_add]; rfl, by omega, by omega, HN2⟩, ?_⟩
      simp only [intOf]; omega

set_option maxHeartbeats 2000000 in
/-- sameBytes, of two that read alike. -/
theorem same_any (v1 v2 : Value) (fl : List Int) (w : World) (h1 : BytesAt w v1 fl) (h2 : BytesAt w v2 fl) :
    Calls Tryd.prog 14 #[v1, v2] w fun e w' => e = .returned (.bool true) ∧ ∃ k, w' = w.drewN k := by
  obtain ⟨a1, n, c1, rfl, hl1, hn1, hm1, -, hx1⟩ := h1
  obtain ⟨a2, n2, c2, rfl, hl2, hn2, hm2, -, hx2⟩ := h2
  obtain rfl : n = n2 := hl1.symm.trans hl2
  unfold maxLen at hm1 hm2
  have H1 : Hid (∀ j x, fl[j]? = some x → 0 ≤ x ∧ x ≤ 255 ∧ ∃ b o, a1 = some ⟨b, o, none⟩ ∧ w.cell? ⟨b, o + j, none⟩ = some (.int .u8 x)) := hx1
  have H2 : Hid (∀ j x, fl[j]? = some x → 0 ≤ x ∧ x ≤ 255 ∧ ∃ b o, a2 = some ⟨b, o, none⟩ ∧ w.cell? ⟨b, o + j, none⟩ = some (.int .u8 x)) := hx2
  clear hx1 hx2
  go_enter Tryd.func14, Tryd.ntmps14
  go_wp2
  go_loopw [5] (fun i W => ∃ j q : Nat, j ≤ n ∧ i = .int .i64 j ∧ W = w.drewN q) (fun i _ => n - (intOf i).toNat)
  case atStart => exact ⟨0, 0, Nat.zero_le _, rfl, rfl⟩
  case round =>
    obtain ⟨j, q, hj, rfl, rfl⟩ := hrel
    by_cases hlt : j < n
    · obtain ⟨x, hxj⟩ : ∃ x, fl[j]? = some x := ⟨_, List.getElem?_eq_getElem (by omega)⟩
      obtain ⟨hx0, hx255, b1, o1, rfl, e1⟩ := H1.out j x hxj
      obtain ⟨_, _, b2, o2, rfl, e2⟩ := H2.out j x hxj
      have e1' : (w.drewN q).cell? ⟨b1, o1 + j, none⟩ = some (.int .u8 x) := e1
      have e2' : (w.drewN q).cell? ⟨b2, o2 + j, none⟩ = some (.int .u8 x) := e2
      clear hxj
      go_wp2
      go_quiet (fail)
      go_wp2
      go_roundw
      case rel => exact ⟨j + 1, q + nq, by omega, by go_num, rfl⟩
      case measure => simp [intOf]; omega
    · obtain rfl : n = j := by omega
      go_wp2
      go_ret
      exact ⟨rfl, q, rfl⟩
end Go.Proofs.Qxb6614495aDoor
