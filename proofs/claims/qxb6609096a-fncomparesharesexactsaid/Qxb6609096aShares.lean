/-
  The callees of both laws: math/bits.Mul64, cmp.isNaN[uint64], cmp.Compare[uint64], compareShares, ZZcompareShares.
-/
import Derived.Test.Qxb6609096aRows
import Derived.WalkKit
import Derived.WalkSpells
import Derived.Laws.Bits64b
import Derived.Lib.Mul64
import Derived.RowKit3
namespace Go.Proofs.Qxb6609096a
open Go.RowKit

/-! ### Plain arithmetic: natural numbers inside the walk (the school method itself: Derived/Lib/Mul64.lean, imported) -/
namespace Half
theorem maskN (a : Nat) (ha : a < 18446744073709551616) : bits .and .u64 (a : Int) 4294967295 = ((a % 4294967296 : Nat) : Int) := by
  have h := bits_and_u64_nat a 4294967295 ha (by omega)
  have e : a &&& 4294967295 = a % 4294967296 := Nat.and_two_pow_sub_one_eq_mod a 32
  rw [e] at h
  exact h
theorem divN (a : Nat) : (a : Int) / 4294967296 = ((a / 4294967296 : Nat) : Int) := by omega
theorem mulN (a b : Nat) : (a : Int) * (b : Int) = ((a * b : Nat) : Int) := (Int.natCast_mul a b).symm
theorem addN (a b : Nat) : (a : Int) + (b : Int) = ((a + b : Nat) : Int) := (Int.natCast_add a b).symm
theorem wrapN (a : Nat) (ha : a < 18446744073709551616) : IntKind.u64.wrap (a : Int) = (a : Int) := by rw [IntKind.wrap_u64]; omega
theorem wrapM (a : Nat) : IntKind.u64.wrap (a : Int) = ((a % 18446744073709551616 : Nat) : Int) := by rw [IntKind.wrap_u64]; omega
end Half

set_option maxHeartbeats 1000000 in
/-- math/bits.Mul64. -/
theorem mul64_nat (x y : Nat) (hx : x < 18446744073709551616) (hy : y < 18446744073709551616) (w : World) :
    Calls Try.prog 8 #[.int .u64 x, .int .u64 y] w fun e w' => e = .returned (.tuple #[.int .u64 ((x * y / 18446744073709551616 : Nat) : Int), .int .u64 ((x * y % 18446744073709551616 : Nat) : Int)]) ∧ w' = w := by
  obtain ⟨bd, bt, bw, hhi⟩ := Go.Lib.mul64_hi x y hx hy
  have ba := Go.Lib.half_mul_le (a := x / 4294967296) (b := y / 4294967296) (by omega) (by omega)
  have bb := Go.Lib.half_mul_le (a := x / 4294967296) (b := y % 4294967296) (by omega) (by omega)
  have bc := Go.Lib.half_mul_le (a := x % 4294967296) (b := y / 4294967296) (by omega) (by omega)
  have ba' : x / 4294967296 * (y / 4294967296) < 18446744073709551616 := by omega
  have bb' : x / 4294967296 * (y % 4294967296) < 18446744073709551616 := by omega
  have bc' : x % 4294967296 * (y / 4294967296) < 18446744073709551616 := by omega
  have bh1 : x / 4294967296 * (y / 4294967296) + (x / 4294967296 * (y % 4294967296) + x % 4294967296 * (y % 4294967296) / 4294967296) / 4294967296 < 18446744073709551616 := by omega
  have bh : x / 4294967296 * (y / 4294967296) + (x / 4294967296 * (y % 4294967296) + x % 4294967296 * (y % 4294967296) / 4294967296) / 4294967296 + ((x / 4294967296 * (y % 4294967296) + x % 4294967296 * (y % 4294967296) / 4294967296) % 4294967296 + x % 4294967296 * (y / 4294967296)) / 4294967296 < 18446744073709551616 := by omega
  go_enter Try.func8, Try.ntmps8
  go_wp2
  simp only [Half.maskN x hx, Half.maskN y hy, Half.divN, Half.mulN, Half.addN, Half.wrapN _ bd, Half.wrapN _ bb', Half.wrapN _ bt, Half.maskN _ bt, Half.wrapN _ bc', Half.wrapN _ bw, Half.wrapN _ ba', Half.wrapN _ bh1, Half.wrapN _ bh, Half.wrapM (x * y)]
  rw [hhi]
  go_ret2
  exact ⟨rfl, rfl⟩

/-- The two words of a product, under names that the walk does not open. -/
def hi64 (a : Int) : Int := a / 18446744073709551616
def lo64 (a : Int) : Int := a % 18446744073709551616

/-- math/bits.Mul64, over Int. -/
theorem mul64 (x y : Int) (hx0 : 0 ≤ x) (hx : x ≤ 9223372036854775807) (hy0 : 0 ≤ y) (hy : y ≤ 9223372036854775807) (w : World) :
    Calls Try.prog 8 #[.int .u64 x, .int .u64 y] w fun e w' => e = .returned (.tuple #[.int .u64 (hi64 (x * y)), .int .u64 (lo64 (x * y))]) ∧ w' = w := by
  obtain ⟨x, rfl⟩ := Int.eq_ofNat_of_zero_le hx0
  obtain ⟨y, rfl⟩ := Int.eq_ofNat_of_zero_le hy0
  have h := mul64_nat x y (by omega) (by omega) w
  rw [Int.natCast_ediv, Int.natCast_emod, Int.natCast_mul] at h
  exact h

/-- The three-way comparison. -/
def cs (a b : Int) : Int := if a < b then -1 else if b < a then 1 else 0
theorem cs_lt {a b : Int} (h : a < b) : cs a b = -1 := by unfold cs; rw [if_pos h]
theorem cs_gt {a b : Int} (h : b < a) : cs a b = 1 := by unfold cs; rw [if_neg (by omega), if_pos h]
theorem cs_eq {a b : Int} (h : a = b) : cs a b = 0 := by unfold cs; rw [if_neg (by omega), if_neg (by omega)]
theorem cs_words (a b : Int) : cs a b = if cs (hi64 a) (hi64 b) = 0 then cs (lo64 a) (lo64 b) else cs (hi64 a) (hi64 b) := by
  unfold cs hi64 lo64; split <;> split <;> split <;> (try split) <;> (try split) <;> omega
theorem cs_hi {a b : Int} (h : (cs (hi64 a) (hi64 b) != 0) = true) : cs (hi64 a) (hi64 b) = cs a b := by rw [cs_words a b, if_neg (by simpa using h)]
theorem cs_lo {a b : Int} (h : (cs (hi64 a) (hi64 b) != 0) = false) : cs (lo64 a) (lo64 b) = cs a b := by rw [cs_words a b, if_pos (by simpa using h)]

/-- cmp.Compare[uint64]. -/
theorem compare_any (x y : Int) (w : World) :
    Calls Try.prog 9 #[.int .u64 x, .int .u64 y] w fun e w' => e = .returned (.int .i64 (cs x y)) ∧ w' = w := by
  by_cases h1 : x < y
  · rw [cs_lt h1]
    go_enter Try.func9, Try.ntmps9
    go_wp2
    go_ret
    exact ⟨rfl, rfl⟩
  by_cases h2 : y < x
  · rw [cs_gt h2]
    go_enter Try.func9, Try.ntmps9
    go_wp2
    go_ret
    exact ⟨rfl, rfl⟩
  · rw [cs_eq (by omega)]
    go_enter Try.func9, Try.ntmps9
    go_wp2
    go_ret
    exact ⟨rfl, rfl⟩

theorem ret_int {k : IntKind} {a b : Int} (h : a = b) : Ending.returned (.int k a) = .returned (.int k b) := by rw [h]

/-- compareShares: the sign of x*wy - y*wx. -/
theorem shares_any (x wx y wy : Int) (x0 : 0 ≤ x) (x1 : x ≤ 9223372036854775807) (wx0 : 0 ≤ wx) (wx1 : wx ≤ 9223372036854775807)
    (y0 : 0 ≤ y) (y1 : y ≤ 9223372036854775807) (wy0 : 0 ≤ wy) (wy1 : wy ≤ 9223372036854775807) (w : World) :
    Calls Try.prog 7 #[.int .i64 x, .int .i64 wx, .int .i64 y, .int .i64 wy] w fun e w' => e = .returned (.int .i64 (cs (x * wy) (y * wx))) ∧ w' = w := by
  go_enter Try.func7, Try.ntmps7
  go_wp2_with (first
    | (go_at_call 8; refine (mul64 _ _ (by assumption) (by assumption) (by assumption) (by assumption) _).mono ?_; rintro e w' ⟨rfl, rfl⟩)
    | (go_at_call 9; refine (compare_any _ _ _).mono ?_; rintro e w' ⟨rfl, rfl⟩))
  · go_ret
    exact ⟨ret_int (cs_hi ‹_›), rfl⟩
  · go_ret
    exact ⟨ret_int (cs_lo ‹_›), rfl⟩

/-- ZZcompareShares. -/
theorem zz_any (x wx y wy : Int) (x0 : 0 ≤ x) (x1 : x ≤ 9223372036854775807) (wx0 : 0 ≤ wx) (wx1 : wx ≤ 9223372036854775807)
    (y0 : 0 ≤ y) (y1 : y ≤ 9223372036854775807) (wy0 : 0 ≤ wy) (wy1 : wy ≤ 9223372036854775807) (w : World) :
    Calls Try.prog 5 #[.int .i64 x, .int .i64 wx, .int .i64 y, .int .i64 wy] w fun e w' => e = .returned (.int .i64 (cs (x * wy) (y * wx))) ∧ w' = w := by
  go_enter Try.func5, Try.ntmps5
  go_wp2_with (go_at_call 7; refine (shares_any _ _ _ _ (by assumption) (by assumption) (by assumption) (by assumption) (by assumption) (by assumption) (by assumption) (by assumption) _).mono ?_; rintro e w' ⟨rfl, rfl⟩)
  go_ret
  exact ⟨rfl, rfl⟩

end Go.Proofs.Qxb6609096a
