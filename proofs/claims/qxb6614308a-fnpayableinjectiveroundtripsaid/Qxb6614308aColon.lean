/-
  The callees: hasColon, firstColon, zzBytes, Payable.
-/
import Derived.Test.Qxb6614308aRows
import Derived.WalkKit
import Derived.WalkSpells
import Derived.RowKit3
import Derived.Below
namespace Go.Proofs.Qxb6614308a
open Go.RowKit

theorem ret_int {k : IntKind} {a b : Int} (h : a = b) : Ending.returned (.int k a) = .returned (.int k b) := by rw [h]

/-- Does the text hold a colon? -/
def hasC (s : ByteArray) : Bool := s.data.toList.any fun c => c == 58
theorem hasC_at {s : ByteArray} {k : Nat} (h : k < s.size) (e : ((s[k].toNat : Int) == 58) = true) : hasC s = true := by
  unfold hasC
  rw [List.any_eq_true]
  refine ⟨s[k], ?_, ?_⟩
  · exact Array.mem_toList_iff.mpr (Array.getElem_mem (xs := s.data) h)
  · have : s[k].toNat = 58 := by have := of_decide_eq_true e; omega
    exact beq_iff_eq.mpr (UInt8.toNat_inj.mp this)
theorem hasC_no {s : ByteArray} (h : ∀ k (hk : k < s.size), ((s[k].toNat : Int) == 58) = false) : hasC s = false := by
  unfold hasC
  rw [List.any_eq_false]
  intro c hc e
  obtain ⟨k, hk, rfl⟩ := List.getElem_of_mem hc
  have hk' : k < s.size := by simpa using hk
  have := h k hk'
  have e' : (s[k].toNat : Int) = 58 := by
    have e0 : s.data[k] = 58 := by simpa using e
    have e1 : s[k] = 58 := e0
    rw [e1]; rfl
  rw [e'] at this
  exact absurd this (by decide)
theorem hasC_not {s : ByteArray} (h : hasC s = false) {k : Nat} (hk : k < s.size) : ((s[k].toNat : Int) == 58) = false := by
  cases e : ((s[k].toNat : Int) == 58)
  · rfl
  · rw [hasC_at hk e] at h; exact h

set_option maxHeartbeats 400000 in
/-- hasColon. -/
theorem has_any (s : ByteArray) (w : World) (hs : s.size ≤ 1048576) :
    Calls Try.prog 10 #[.string s] w fun e w' => e = .returned (.bool (hasC s)) ∧ w' = w := by
  go_enter Try.func10, Try.ntmps10
  go_wp2
  go_loop [3] (fun i => ∃ k : Nat, k ≤ s.size ∧ i = .int .i64 k ∧ Hid (∀ j (hj : j < s.size), j < k → ((s[j].toNat : Int) == 58) = false)) (fun i => s.size - (intOf i).toNat)
  case atStart => exact ⟨0, Nat.zero_le _, rfl, fun j _ hj => absurd hj (by omega)⟩
  case round =>
    obtain ⟨k, hk, rfl, H⟩ := hrel
    by_cases hlt : k < s.size
    · cases e : ((s[k].toNat : Int) == 58)
      · go_wp2
        go_round
        case rel => exact ⟨k + 1, by omega, by go_num, fun j hj hjk => by
          by_cases ej : j = k
          · subst ej; exact e
          · exact H.out j hj (by omega)⟩
        case measure => simp [intOf]; omega
      · have E : Hid (hasC s = true) := hasC_at hlt e
        go_wp2
        go_ret
        exact ⟨by rw [E.out]; rfl, rfl⟩
    · have E : Hid (hasC s = false) := hasC_no fun j hj => H.out j hj (by omega)
      go_wp2
      go_ret
      exact ⟨by rw [E.out]; rfl, rfl⟩

set_option maxHeartbeats 400000 in
/-- firstColon, where the first colon stands at n. -/
theorem first_any (s : ByteArray) (n : Nat) (w : World) (hs : s.size ≤ 1048576) (hn : n < s.size) (h58 : ((s[n].toNat : Int) == 58) = true)
    (hno : ∀ j (hj : j < s.size), j < n → ((s[j].toNat : Int) == 58) = false) :
    Calls Try.prog 12 #[.string s] w fun e w' => e = .returned (.int .i64 n) ∧ w' = w := by
  have H58 : Hid (((s[n].toNat : Int) == 58) = true) := h58
  have HNO : Hid (∀ j (hj : j < s.size), j < n → ((s[j].toNat : Int) == 58) = false) := hno
  clear h58 hno
  go_enter Try.func12, Try.ntmps12
  go_wp2
  go_loop [3] (fun i => ∃ k : Nat, k ≤ n ∧ i = .int .i64 k) (fun i => n - (intOf i).toNat)
  case atStart => exact ⟨0, Nat.zero_le _, rfl⟩
  case round =>
    obtain ⟨k, hk, rfl⟩ := hrel
    by_cases hlt : k < n
    · have e := HNO.out k (by omega) hlt
      go_wp2
      go_round
      case rel => exact ⟨k + 1, by omega, by go_num⟩
      case measure => simp [intOf]; omega
    · obtain rfl : k = n := by omega
      have e := H58.out
      go_wp2
      go_ret
      exact ⟨rfl, rfl⟩

/-- zzBytes: the lengths sum to at most 1<<20. -/
def fits (a b x y : ByteArray) : Bool := decide (a.size + b.size + x.size + y.size ≤ 1048576)
set_option maxHeartbeats 400000 in
theorem zz_any (a b x y : ByteArray) (w : World) (ha : a.size ≤ maxLen) (hb : b.size ≤ maxLen) (hx : x.size ≤ maxLen) (hy : y.size ≤ maxLen) :
    Calls Try.prog 9 #[.string a, .string b, .string x, .string y] w fun e w' => e = .returned (.bool (fits a b x y)) ∧ w' = w := by
  unfold maxLen at ha hb hx hy
  by_cases h : a.size + b.size + x.size + y.size ≤ 1048576
  · have e : fits a b x y = true := decide_eq_true h
    rw [e]; clear e
    go_enter Try.func9, Try.ntmps9
    go_wp2
    go_ret
    exact ⟨rfl, rfl⟩
  · have e : fits a b x y = false := decide_eq_false h
    rw [e]; clear e
    go_enter Try.func9, Try.ntmps9
    go_wp2
    all_goals (go_ret; exact ⟨rfl, rfl⟩)

/-- What Payable writes. -/
def pay (a x : ByteArray) : ByteArray := a ++ ⟨#[58]⟩ ++ x

/-- Payable, where the name alone is set. -/
theorem pay_any (a : ByteArray) (x : ByteArray) (w : World) (ha : a.size ≤ 262144) (hx : x.size ≤ 262144) :
    Calls Try.prog 11 #[.agg #[.string a, .slice none 0 0, .pointer none, .slice none 0 0], .string x] w fun e w' => e = .returned (.string (pay a x)) ∧
      w' = w.alloc (.cells #[.string a, .slice none 0 0, .pointer none, .slice none 0 0] 34) := by
  unfold pay
  go_enter Try.func11, Try.ntmps11
  go_wp2
  go_ret
  exact ⟨rfl, rfl⟩
end Go.Proofs.Qxb6614308a
