/-
  cmpFrac: the comparison of two fractions by continued fractions, plainly and walked.
-/
import Derived.Test.Qxb6609096aShares
import Derived.Below
namespace Go.Proofs.Qxb6609096a
open Go.RowKit

/-! ### Plain: the step of the continued fraction -/
theorem cs_swap (a b : Int) : cs b a = -cs a b := by
  unfold cs; split <;> split <;> (try split) <;> omega
theorem cs_bd (a b : Int) : -1 ≤ cs a b ∧ cs a b ≤ 1 := by
  unfold cs; split <;> (try split) <;> omega
theorem cs_shift (c a b : Int) : cs (c + a) (c + b) = cs a b := by
  unfold cs; split <;> split <;> (try split) <;> (try split) <;> omega
theorem quo_lt {a p b q : Int} (hp : 1 ≤ p) (hq : 1 ≤ q) (h : a / p < b / q) : a * q < b * p := by
  have h1 : a < (a / p + 1) * p := Int.lt_ediv_add_one_mul_self a (by omega)
  have h2 : b / q * q ≤ b := Int.ediv_mul_le b (by omega)
  have h3 : (a / p + 1) * q ≤ b / q * q := Int.mul_le_mul_of_nonneg_right (by omega) (by omega)
  have h4 : a * q < (a / p + 1) * p * q := Int.mul_lt_mul_of_pos_right h1 (by omega)
  have h5 : (a / p + 1) * q * p ≤ b * p := Int.mul_le_mul_of_nonneg_right (by omega) (by omega)
  rw [Int.mul_right_comm] at h5
  omega
theorem cs_quo_lt {a p b q : Int} (hp : 1 ≤ p) (hq : 1 ≤ q) (h : a / p < b / q) : cs (a * q) (b * p) = -1 := cs_lt (quo_lt hp hq h)
theorem cs_quo_gt {a p b q : Int} (hp : 1 ≤ p) (hq : 1 ≤ q) (h : b / q < a / p) : cs (a * q) (b * p) = 1 := cs_gt (quo_lt hq hp h)
theorem cs_rem {a p b q : Int} (h : a / p = b / q) : cs (a * q) (b * p) = cs (a % p * q) (b % q * p) := by
  have e1 : a * q = p * (b / q) * q + a % p * q := by rw [← Int.add_mul, ← h, Int.mul_ediv_add_emod]
  have e2 : b * p = p * (b / q) * q + b % q * p := by
    have : p * (b / q) * q = q * (b / q) * p := by rw [Int.mul_comm p, Int.mul_right_comm, Int.mul_comm q, Int.mul_right_comm]
    rw [this, ← Int.add_mul, Int.mul_ediv_add_emod]
  rw [e1, e2, cs_shift]
theorem cs_turn {a p b q : Int} (h : a / p = b / q) : cs (p * (b % q)) (q * (a % p)) = -cs (a * q) (b * p) := by
  rw [cs_rem h, ← cs_swap, Int.mul_comm p, Int.mul_comm q]
theorem cs_00 {a p b q : Int} (h : a / p = b / q) (h1 : a % p = 0) (h2 : b % q = 0) : cs (a * q) (b * p) = 0 := by
  rw [cs_rem h, h1, h2]; exact cs_eq (by simp)
theorem cs_0p {a p b q : Int} (hp : 1 ≤ p) (h : a / p = b / q) (h1 : a % p = 0) (h2 : 0 < b % q) : cs (a * q) (b * p) = -1 := by
  rw [cs_rem h, h1]; exact cs_lt (by rw [Int.zero_mul]; exact Int.mul_pos h2 (by omega))
theorem cs_p0 {a p b q : Int} (hq : 1 ≤ q) (h : a / p = b / q) (h1 : 0 < a % p) (h2 : b % q = 0) : cs (a * q) (b * p) = 1 := by
  rw [cs_rem h, h2]; exact cs_gt (by rw [Int.zero_mul]; exact Int.mul_pos h1 (by omega))

/-- What the loop keeps. -/
structure Kept (C a p b q s : Int) : Prop where
  a0 : 0 ≤ a
  a1 : a ≤ 9223372036854775807
  p0 : 1 ≤ p
  p1 : p ≤ 9223372036854775807
  b0 : 0 ≤ b
  b1 : b ≤ 9223372036854775807
  q0 : 1 ≤ q
  q1 : q ≤ 9223372036854775807
  s0 : -1 ≤ s
  s1 : s ≤ 1
  now : s * cs (a * q) (b * p) = C

theorem Kept.turn {C a p b q s : Int} (k : Kept C a p b q s) (h : a / p = b / q) (h1 : 0 < a % p) (h2 : 0 < b % q) : Kept C p (a % p) q (b % q) (-s) := by
  obtain ⟨a0, a1, p0, p1, b0, b1, q0, q1, s0, s1, now⟩ := k
  have m1 := Int.emod_lt_of_pos a (b := p) (by omega)
  have m2 := Int.emod_lt_of_pos b (b := q) (by omega)
  exact ⟨by omega, by omega, by omega, by omega, by omega, by omega, by omega, by omega, by omega, by omega, by rw [cs_turn h, Int.neg_mul_neg]; exact now⟩
theorem Kept.at_neg {C a p b q s : Int} (k : Kept C a p b q s) (h : cs (a * q) (b * p) = -1) : -s = C := by have := k.now; rw [h] at this; omega
theorem Kept.at_pos {C a p b q s : Int} (k : Kept C a p b q s) (h : cs (a * q) (b * p) = 1) : s = C := by have := k.now; rw [h] at this; omega
theorem Kept.at_zero {C a p b q s : Int} (k : Kept C a p b q s) (h : cs (a * q) (b * p) = 0) : 0 = C := by have := k.now; rw [h] at this; omega

set_option maxHeartbeats 1000000 in
/-- cmpFrac. -/
theorem frac_any (x wx y wy : Int) (x0 : 0 ≤ x) (x1 : x ≤ 9223372036854775807) (wx0 : 1 ≤ wx) (wx1 : wx ≤ 9223372036854775807)
    (y0 : 0 ≤ y) (y1 : y ≤ 9223372036854775807) (wy0 : 1 ≤ wy) (wy1 : wy ≤ 9223372036854775807) (w : World) :
    Calls Try.prog 6 #[.int .i64 x, .int .i64 wx, .int .i64 y, .int .i64 wy] w fun e w' => e = .returned (.int .i64 (cs (x * wy) (y * wx))) ∧ w' = w := by
  generalize hC : cs (x * wy) (y * wx) = C
  have HK : Hid (Kept C x wx y wy 1) := ⟨x0, x1, wx0, wx1, y0, y1, wy0, wy1, by omega, by omega, by rw [Int.one_mul]; exact hC⟩
  clear hC
  go_enter Try.func6, Try.ntmps6
  go_wp2
  clear x0 x1 wx0 wx1 y0 y1 wy0 wy1
  go_loop [0, 1, 2, 3, 9] (fun t0 t1 t2 t3 t9 => ∃ a p b q s : Int, Hid (Kept C a p b q s) ∧ t0 = .int .i64 a ∧ t1 = .int .i64 p ∧ t2 = .int .i64 b ∧ t3 = .int .i64 q ∧ t9 = .int .i64 s) (fun _ t1 _ t3 _ => (intOf t1).toNat + (intOf t3).toNat)
  case atStart => exact ⟨x, wx, y, wy, 1, HK, rfl, rfl, rfl, rfl, rfl⟩
  case round =>
    obtain ⟨a, p, b, q, s, K, rfl, rfl, rfl, rfl, rfl⟩ := hrel
    clear HK
    have k := K.out
    obtain ⟨a0, a1, p0, p1, b0, b1, q0, q1, s0, s1, -⟩ := K.out
    by_cases h1 : a / p < b / q
    · have E : Hid (-s = C) := k.at_neg (cs_quo_lt p0 q0 h1)
      clear k
      go_wp2
      go_ret
      exact ⟨ret_int E.out, rfl⟩
    by_cases h2 : b / q < a / p
    · have E : Hid (s = C) := k.at_pos (cs_quo_gt p0 q0 h2)
      clear k
      go_wp2
      go_ret
      exact ⟨ret_int E.out, rfl⟩
    have he : Hid (a / p = b / q) := (by omega : a / p = b / q)
    have m0 := Int.emod_nonneg a (b := p) (by omega)
    have m1 := Int.emod_lt_of_pos a (b := p) (by omega)
    have n0 := Int.emod_nonneg b (b := q) (by omega)
    have n1 := Int.emod_lt_of_pos b (b := q) (by omega)
    by_cases r1 : 0 < a % p
    · by_cases r2 : 0 < b % q
      · have K' : Hid (Kept C p (a % p) q (b % q) (-s)) := k.turn he.out r1 r2
        clear k
        go_wp2
        go_round
        case rel => exact ⟨p, a % p, q, b % q, -s, K', rfl, rfl, rfl, rfl, rfl⟩
        case measure => simp only [intOf]; omega
      · have E : Hid (s = C) := k.at_pos (cs_p0 q0 he.out r1 (by omega))
        clear k
        go_wp2
        go_ret
        exact ⟨ret_int E.out, rfl⟩
    · by_cases r2 : 0 < b % q
      · have E : Hid (-s = C) := k.at_neg (cs_0p p0 he.out (by omega) r2)
        clear k
        go_wp2
        go_ret
        exact ⟨ret_int E.out, rfl⟩
      · have E : Hid (0 = C) := k.at_zero (cs_00 he.out (by omega) (by omega))
        clear k
        go_wp2
        go_ret
        exact ⟨ret_int E.out, rfl⟩
end Go.Proofs.Qxb6609096a
