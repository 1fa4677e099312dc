/-
  strconv.AppendInt and appendHeader, onto a slice that lies within a row.
-/
import Derived.Test.Qxb6614495aDoorApp
namespace Go.Proofs.Qxb6614495aDoor
open Go.Shelf Go.RowKit Go.Sort Go.Lib

/-- The table of powers lies in none of the cells that an append onto b may write. -/
def TabOk (W : World) (b : Nat) : Prop := ∀ w', W.keptBut w' (fun p => p.block = b) → Lib.TabIs Tryd.prog w' "internal/strconv.uint64pow10" .u64 Lib.pow10Tab

/-- The header's cells. -/
def hdr (n : Nat) : List Value := [.int .u8 36] ++ Lib.byteCells (Lib.decDigits n) ++ [.int .u8 13, .int .u8 10]

section
variable {W : World} {ao : Option Addr} {b off len cap : Nat} {olds : List Value}

theorem TabOk.at (ht : TabOk W b) {w : World} {v : Value} {m : Nat} {ks : List Value} {r : Nat} (h : Upon W 5 1 ao b off len cap olds w v m ks r) : Lib.TabIs Tryd.prog w "internal/strconv.uint64pow10" .u64 Lib.pow10Tab :=
  ht w (World.keptBut_mono (fun p ⟨_, _, e⟩ => by rw [e]; rfl) h.kept)

theorem appUint_any (hc : Came W 1 ao b off len cap olds) (ht : TabOk W b) (u : Nat) (hu64 : u < 18446744073709551616) (w : World) (v : Value) (m : Nat) (ks : List Value) (r : Nat) (h : Upon W 5 1 ao b off len cap olds w v m ks r) (hlim : len + m + 20 ≤ 140737488355328) :
    Calls Tryd.prog 31 #[v, .int .u64 u, .int .i64 10] w fun e w' => ∃ v' r', e = .returned v' ∧ Upon W 5 1 ao b off len cap olds w' v' (m + (Lib.decDigits u).length) (ks ++ Lib.byteCells (Lib.decDigits u)) r' := by
  by_cases hu : u < 100
  · exact appUint_small hc u hu w v m ks r h hlim
  · exact appUint_big hc u (by omega) hu64 w v m ks r h hlim (ht.at h)

set_option maxHeartbeats 2000000 in
theorem appInt_in (hc : Came W 1 ao b off len cap olds) (ht : TabOk W b) (u : Nat) (hu : u ≤ 1048576) (w : World) (v : Value) (m : Nat) (ks : List Value) (r : Nat) (h : Upon W 5 1 ao b off len cap olds w v m ks r) (hlim : len + m + 20 ≤ 140737488355328) :
    Calls Tryd.prog 30 #[v, .int .i64 u, .int .i64 10] w fun e w' => ∃ v' r', e = .returned v' ∧ Upon W 5 1 ao b off len cap olds w' v' (m + (Lib.decDigits u).length) (ks ++ Lib.byteCells (Lib.decDigits u)) r' := by
  have hA := appUint_any hc ht u (by omega) w v m ks r h hlim
  obtain ⟨va, vc, rfl⟩ := h.shape
  clear h
  go_enter Tryd.func30, Tryd.ntmps30
  go_wp2_with (go_at_call 31; refine hA.mono ?_; rintro e w' ⟨v', r', rfl, hU⟩)
  go_ret
  exact ⟨v', r', rfl, hU⟩

set_option maxHeartbeats 2000000 in
theorem appInt_any (hc : Came W 1 ao b off len cap olds) (ht : TabOk W b) (u : Nat) (hu : u ≤ 1048576) (w : World) (v : Value) (m : Nat) (ks : List Value) (r : Nat) (h : Upon W 5 1 ao b off len cap olds w v m ks r) (hlim : len + m + 20 ≤ 140737488355328) :
    Calls Tryd.prog 28 #[v, .int .i64 u, .int .i64 10] w fun e w' => ∃ v' r', e = .returned v' ∧ Upon W 5 1 ao b off len cap olds w' v' (m + (Lib.decDigits u).length) (ks ++ Lib.byteCells (Lib.decDigits u)) r' := by
  have hA := appInt_in hc ht u hu w v m ks r h hlim
  obtain ⟨va, vc, rfl⟩ := h.shape
  clear h
  go_enter Tryd.func28, Tryd.ntmps28
  go_wp2_with (go_at_call 30; refine hA.mono ?_; rintro e w' ⟨v', r', rfl, hU⟩)
  go_ret
  exact ⟨v', r', rfl, hU⟩

set_option maxHeartbeats 4000000 in
set_option maxRecDepth 100000 in
theorem header_any (hc : Came W 1 ao b off len cap olds) (ht : TabOk W b) (u : Nat) (hu : u ≤ 1048576) (w : World) (v : Value) (m : Nat) (ks : List Value) (r : Nat) (h : Upon W 5 1 ao b off len cap olds w v m ks r) (hlim : len + m + 60 ≤ 140737488355328) :
    Calls Tryd.prog 19 #[v, .int .u8 36, .int .i64 u] w fun e w' => ∃ v' r', e = .returned v' ∧ Upon W 5 1 ao b off len cap olds w' v' (m + (hdr u).length) (ks ++ hdr u) r' := by
  obtain ⟨i0, hi, hz0, hz1, hz2⟩ := info_parts info5u
  obtain ⟨va, vc, rfl⟩ := h.shape
  have hU1 : Upon W 5 1 ao b off len cap olds (w.alloc (.cells #[.int .u8 36] 5)) (.slice va (len + m) vc) m ks r := h.alloc hc _
  have hs1 : Src Tryd.prog 1 24 (.slice (some ⟨w.heap.size, 0, none⟩) 1 1) 1 [.int .u8 36] (w.alloc (.cells #[.int .u8 36] 5)) := Src.ofSlice _ Tryd.underlying24 _ 1 1 _ rfl (fun j x hj => by
    rw [Lib.addr_add, Nat.zero_add, World.cell?_alloc_new, ← Array.getElem?_toList]; exact hj) (fun x hx => by rw [List.mem_singleton.1 hx]; rfl)
  have hdl : (Lib.decDigits u).length ≤ 20 := by
    rw [Lib.decDigits_length]
    rcases Nat.eq_zero_or_pos u with h0 | h0
    · subst h0; rw [Lib.nDigits_small (by omega)]; omega
    · have := Lib.numDigits_eq u h0 (by omega); split at this <;> omega
  clear h
  go_enter Tryd.func19, Tryd.ntmps19
  go_wp2_with (at_builtin; refine wpList_append_upon _ rfl _ _ _ _ rfl hc i0 (.int .u8 0) 1 Tryd.underlying24 hi hz0 hz1 hz2 rfl rfl hU1 _ _ _ rfl hs1 (by unfold maxLen; omega) (by omega) ?_)
  intro v1 w1 hU
  obtain ⟨va1, vc1, rfl⟩ := hU.shape
  have hA := appInt_any hc ht u hu w1 _ _ _ _ hU (by omega)
  clear hU1 hs1 hU
  have hs3 : ∀ w2 : World, Src Tryd.prog 1 24 (.slice (some ⟨w2.heap.size, 0, none⟩) 2 2) 2 [.int .u8 13, .int .u8 10] (w2.alloc (.cells #[.int .u8 13, .int .u8 10] 5)) := fun w2 => Src.ofSlice _ Tryd.underlying24 _ 2 2 _ rfl (fun j x hj => by
    rw [Lib.addr_add, Nat.zero_add, World.cell?_alloc_new, ← Array.getElem?_toList]; exact hj) (fun x hx => by
    rcases List.mem_cons.1 hx with rfl | hx
    · rfl
    · rw [List.mem_singleton.1 hx]; rfl)
  go_wp2_with (first
    | (go_at_call 28; refine hA.mono ?_; rintro e w2 ⟨v2, r2, rfl, hU2⟩; obtain ⟨va2, vc2, rfl⟩ := hU2.shape; have hU3 := hU2.alloc hc (.cells #[.int .u8 13, .int .u8 10] 5); clear hU2)
    | (at_builtin; refine wpList_append_upon _ rfl _ _ _ _ rfl hc i0 (.int .u8 0) 1 Tryd.underlying24 hi hz0 hz1 hz2 rfl rfl hU3 _ _ _ rfl (hs3 w2) (by unfold maxLen; omega) (by omega) ?_))
  intro v4 w4 hU4
  go_wp2
  go_ret
  have e1 : m + (hdr u).length = m + 1 + (Lib.decDigits u).length + 2 := by simp [hdr, Lib.byteCells_length]; omega
  have e2 : ks ++ hdr u = ks ++ .int .u8 36 :: (Lib.byteCells (Lib.decDigits u) ++ [.int .u8 13, .int .u8 10]) := by simp [hdr]
  rw [e1, e2]
  exact ⟨v4, _, rfl, hU4⟩
end
end Go.Proofs.Qxb6614495aDoor
