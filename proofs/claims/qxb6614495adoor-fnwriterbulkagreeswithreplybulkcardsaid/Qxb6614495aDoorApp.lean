/-
  strconv.AppendInt and appendHeader onto a slice that lies within a row ('Upon').
-/
import Derived.Test.Qxb6614495aDoorAppLaid
import Derived.Test.Qxb6614495aDoorDefs
import Derived.Deep.Upon
import Derived.Lib.AppendIntMem
import Derived.Lib.Slices
import Derived.Lib.Hide
import Derived.OwnWalk
import Derived.WalkKit
import Derived.BigCall
import Derived.BigGuard
import Derived.CellFam
namespace Go.Proofs.Qxb6614495aDoor
open Go.Shelf Go.RowKit Go.Sort Go.Lib

theorem info5u : (Tryd.prog.info? 5).map (fun i => (i.zero, i.size, i.bytes)) = some (some (.int .u8 0), 1, 1) := by kernel_rfl
theorem small_at (u : Nat) (hu : u < 100) (w : World) : Calls Tryd.prog 32 #[.int .i64 u] w fun e w' => e = .returned (.string ⟨(Lib.decDigits u).toArray⟩) ∧ w' = w := Any.internal_strconv_small { appLays with } u hu w
theorem numDigits_at (u : Nat) (h1 : 1 ≤ u) (h2 : u < 18446744073709551616) (w : World) (htab : Lib.TabIs Tryd.prog w "internal/strconv.uint64pow10" .u64 Lib.pow10Tab) :
    Calls Tryd.prog 33 #[.int .u64 u] w fun e w' => e = .returned (.int .i64 (Lib.nDigits u)) ∧ w' = w := Any.internal_strconv_numDigits { appLays with } u h1 h2 w htab
theorem format_at (blk off cap : Nat) (u : Nat) (d : Array UInt8) (w : World) (hH : Holds (fun (b : UInt8) => Value.int .u8 (b.toNat : Int)) w blk off d) (hu : u < 10 ^ d.size) (hu64 : u < 18446744073709551616) (hsz : d.size < 4611686018427387904) :
    Calls Tryd.prog 34 #[.slice (some ⟨blk, off, none⟩) d.size cap, .int .u64 u] w fun e w' =>
      e = .returned (.tuple #[]) ∧ ∃ (n v' : Nat) (dk : Array UInt8), w' = (putRow (fun (b : UInt8) => Value.int .u8 (b.toNat : Int)) w blk off dk).drewN n ∧ FmtInv d.size u 0 v' dk := Any.internal_strconv_formatBase10 { appLays with } blk off cap u d w hH hu hu64 hsz

theorem byteCells_eq (l : List UInt8) : Go.byteCells ⟨l.toArray⟩ = Lib.byteCells l := by simp [Go.byteCells, Lib.byteCells]

section
variable {W : World} {ao : Option Addr} {b off len cap : Nat} {olds : List Value}

set_option maxHeartbeats 4000000 in
set_option maxRecDepth 100000 in
theorem appUint_small (hc : Came W 1 ao b off len cap olds) (u : Nat) (hu : u < 100) (w : World) (v : Value) (m : Nat) (ks : List Value) (r : Nat) (h : Upon W 5 1 ao b off len cap olds w v m ks r) (hlim : len + m + 20 ≤ 140737488355328) :
    Calls Tryd.prog 31 #[v, .int .u64 u, .int .i64 10] w fun e w' => ∃ v' r', e = .returned v' ∧ Upon W 5 1 ao b off len cap olds w' v' (m + (Lib.decDigits u).length) (ks ++ Lib.byteCells (Lib.decDigits u)) r' := by
  obtain ⟨i0, hi, hz0, hz1, hz2⟩ := info_parts info5u
  have hlen : (Lib.decDigits u).length ≤ 20 := by
    rw [Lib.decDigits_length]
    by_cases h10 : u < 10
    · rw [Lib.nDigits_small h10]; omega
    · rw [Lib.nDigits_big h10, Lib.nDigits_small (show u / 10 < 10 by omega)]; omega
  have hsz : (⟨(Lib.decDigits u).toArray⟩ : ByteArray).size = (Lib.decDigits u).length := by simp [ByteArray.size]
  obtain ⟨va, vc, rfl⟩ := h.shape
  go_enter Tryd.func31, Tryd.ntmps31
  go_wp2_with (first
    | (go_at_call 32; refine (small_at u hu _).mono ?_; rintro e w' ⟨rfl, rfl⟩)
    | (at_builtin; refine wpList_append_upon _ rfl _ _ _ _ rfl hc i0 (.int .u8 0) 1 Tryd.underlying24 hi hz0 hz1 hz2 rfl rfl h _ _ _ rfl (Src.ofString _ Tryd.underlying9 ⟨(Lib.decDigits u).toArray⟩) (by rw [hsz]; unfold maxLen; omega) (by rw [hsz]; omega) ?_))
  intro v' w1 hU
  go_wp2
  go_ret
  exact ⟨v', _, rfl, by rw [← byteCells_eq]; exact hU⟩

set_option maxHeartbeats 8000000 in
set_option maxRecDepth 100000 in
theorem appUint_big (hc : Came W 1 ao b off len cap olds) (u : Nat) (hu : 100 ≤ u) (hu64 : u < 18446744073709551616) (w : World) (v : Value) (m : Nat) (ks : List Value) (r : Nat) (h : Upon W 5 1 ao b off len cap olds w v m ks r) (hlim : len + m + 20 ≤ 140737488355328)
    (htab : Lib.TabIs Tryd.prog w "internal/strconv.uint64pow10" .u64 Lib.pow10Tab) :
    Calls Tryd.prog 31 #[v, .int .u64 u, .int .i64 10] w fun e w' => ∃ v' r', e = .returned v' ∧ Upon W 5 1 ao b off len cap olds w' v' (m + (Lib.decDigits u).length) (ks ++ Lib.byteCells (Lib.decDigits u)) r' := by
  obtain ⟨i0, hi, hz0, hz1, hz2⟩ := info_parts info5u
  have hu1 : 1 ≤ u := by omega
  have hnd20 : Lib.nDigits u ≤ 20 := by have := Lib.numDigits_eq u hu1 hu64; split at this <;> omega
  have hal : Tryd.prog.arrayLen 78 = 24 := by kernel_rfl
  have hsl : ∀ X, (Instr.sliceAt 78 (.pointer (some ⟨w.heap.size, 0, none⟩)) none (some (.int .i64 (Lib.nDigits u : Int))) none).run Tryd.prog X = .ok (.slice (some ⟨w.heap.size, 0, none⟩) (Lib.nDigits u) 24) X := fun X => by
    rw [run_sliceAt_array_h X 78 ⟨w.heap.size, 0, none⟩ (by kernel_rfl) .i64 (Lib.nDigits u : Int) (by omega) (by rw [hal]; omega)]
    have hel : Tryd.prog.elem 78 = 5 := by kernel_rfl
    rw [hal, hel]
    go_simp
  have hH0 := Lib.holds_zero0 w 78 (Lib.nDigits u) (by omega)
  have hfmt := format_at w.heap.size 0 24 u (Array.replicate (Lib.nDigits u) 0) (w.alloc (.cells Lib.zeros24 78)) hH0 (by rw [Array.size_replicate]; exact Lib.lt_pow_nDigits u) hu64 (by rw [Array.size_replicate]; omega)
  rw [Array.size_replicate] at hfmt
  have HH0 := Lib.hid hH0
  have iu : (100 : Int) ≤ (u : Int) := by omega
  clear hH0 hal
  obtain ⟨va, vc, rfl⟩ := h.shape
  go_enter Tryd.func31, Tryd.ntmps31
  go_wp2_with (go_at_call 33; refine (numDigits_at u hu1 hu64 _ (Lib.tabIs_alloc htab _)).mono ?_; rintro e w' ⟨rfl, rfl⟩)
  go_at_call 34
  refine hfmt.mono ?_
  rintro e w' ⟨rfl, k, v', dk, rfl, hF⟩
  have hcells : ∀ j u', (Lib.byteCells (Lib.decDigits u))[j]? = some u' → ((putRow (fun (b : UInt8) => Value.int .u8 (b.toNat : Int)) (w.alloc (.cells Lib.zeros24 78)) w.heap.size 0 dk).drewN k).cell? ((⟨w.heap.size, 0, none⟩ : Addr).add j) = some u' := by
    intro j u' hj
    have hjl : j < (Lib.decDigits u).length := by
      have h5 := (List.getElem?_eq_some_iff.1 hj).1
      rwa [Lib.byteCells_length] at h5
    have e5 : (Lib.byteCells (Lib.decDigits u))[j]? = some (Value.int .u8 ((Lib.decDigits u)[j].toNat : Int)) := by simp [Lib.byteCells, hjl]
    rw [e5] at hj
    cases hj
    rw [Lib.row_is_numeral hF j hjl, Lib.add_plain, World.cell?_drewN]
    exact cell?_putRow (fun (b : UInt8) => Value.int .u8 (b.toNat : Int)) _ w.heap.size 0 _ dk HH0.out (by rw [hF.size, Array.size_replicate]) j (by rw [hF.size]; rw [Lib.decDigits_length] at hjl; exact hjl)
  obtain ⟨os, eo⟩ := Lib.fin_at w (.cells Lib.zeros24 78) dk k 0
  have hU2 : Upon W 5 1 ao b off len cap olds ((putRow (fun (b : UInt8) => Value.int .u8 (b.toNat : Int)) (w.alloc (.cells Lib.zeros24 78)) w.heap.size 0 dk).drewN k) (.slice va (len + m) vc) m ks r := by
    rw [eo]; exact h.carry hc rfl rfl (fun i hi => Lib.heap_grow_old w k os i (Nat.lt_of_lt_of_le hi h.kept.size)) (fun g _ hg => Lib.heap_grow_old w k os g hg)
  generalize (putRow (fun (b : UInt8) => Value.int .u8 (b.toNat : Int)) (w.alloc (.cells Lib.zeros24 78)) w.heap.size 0 dk).drewN k = W2 at hcells hU2 ⊢
  clear eo HH0 hfmt
  have hbl : (Lib.byteCells (Lib.decDigits u)).length = Lib.nDigits u * 1 := by rw [Lib.byteCells_length, Lib.decDigits_length, Nat.mul_one]
  have hone : ∀ u' ∈ Lib.byteCells (Lib.decDigits u), u'.oneCell' = true := by intro u' hu'; simp only [Lib.byteCells, List.mem_map] at hu'; obtain ⟨b, _, rfl⟩ := hu'; rfl
  go_wp2_with (at_builtin; refine wpList_append_upon _ rfl _ _ _ _ rfl hc i0 (.int .u8 0) 1 Tryd.underlying24 hi hz0 hz1 hz2 rfl rfl hU2 _ _ _ rfl (Src.ofSlice _ Tryd.underlying24 ⟨w.heap.size, 0, none⟩ (Lib.nDigits u) 24 (Lib.byteCells (Lib.decDigits u)) hbl hcells hone) (by unfold maxLen; omega) (by omega) ?_)
  intro v2 w3 hU
  go_wp2
  go_ret
  exact ⟨v2, _, rfl, by rw [Lib.decDigits_length]; exact hU⟩
end
end Go.Proofs.Qxb6614495aDoor
