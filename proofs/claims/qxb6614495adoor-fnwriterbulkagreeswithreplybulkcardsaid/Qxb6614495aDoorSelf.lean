/-
  (*bufio.Writer).Write where all of it fits, wherever it lies; AvailableBuffer.
-/
import Derived.Test.Qxb6614495aDoorBufio
namespace Go.Proofs.Qxb6614495aDoor
open Go.RowKit
attribute [local go_sem ↓] Go.wp_at_zero Go.wp_at_succ

set_option maxHeartbeats 4000000 in
set_option maxRecDepth 100000 in
theorem write_fits (b R s : Nat) (bs pend cs : List Value) (v : Value) (w : World) (h : Sink b R s bs pend v w) (xb xo n c : Nat) (hcs : cs.length = n) (hn : 1 ≤ n) (hnc : n ≤ c) (hcm : c ≤ maxLen) (hroom : n ≤ 16384 - pend.length)
    (hsrc : ∀ j u, cs[j]? = some u → w.cell? ⟨xb, xo + j, none⟩ = some u) (h1 : ∀ u ∈ cs, u.oneCell' = true) :
    Calls Tryd.prog 18 #[.pointer (some ⟨s, 0, none⟩), .slice (some ⟨xb, xo, none⟩) n c] w fun e w' => e = .returned (.tuple #[.int .i64 n, .nilIface]) ∧ Done b R s (bs ++ pend ++ cs) v w w' := by
  unfold maxLen at hcm
  have c0 := h.c0
  have c1 := h.c1
  have c2 := h.c2
  have hfit := h.fit
  have HS : Hid (Sink b R s bs pend v w) := h
  have HSRC : Hid (∀ j u, cs[j]? = some u → w.cell? ⟨xb, xo + j, none⟩ = some u) := hsrc
  have hroom' : (n : Int) ≤ 16384 - (pend.length : Int) := by omega
  have hlt' : (pend.length : Int) < 16384 := by omega
  have hp0 : (0 : Int) ≤ (pend.length : Int) := by omega
  have hp1 : (pend.length : Int) ≤ 16384 := by omega
  have hne : ¬ 16384 = pend.length := by omega
  clear h hsrc
  go_enter Tryd.func18, Tryd.ntmps18
  go_wp2
  go_loopw [1, 4] (fun t1 t4 wr => t1 = .slice (some ⟨xb, xo, none⟩) n c ∧ t4 = .int .i64 0 ∧ wr = w) (fun _ _ _ => 0)
  case atStart => exact ⟨rfl, rfl, rfl⟩
  case round =>
    obtain ⟨rfl, rfl, hwr⟩ := hrel
    subst hwr
    go_wp2_with (go_at_call 26; refine (avail_any s R pend.length _ c1 c2 hfit).mono ?_)
    rintro e W ⟨rfl, k, hW⟩
    have hSW : Sink b R s bs pend v W := by rw [hW]; exact HS.out.drewN k
    have hMW : Hid (Moves b R s v v wr W) := by rw [hW]; exact (Moves.refl _ _ _ _ _).drewN k
    have hsrc : ∀ j u, cs[j]? = some u → ∃ y, (some ⟨xb, xo, none⟩ : Option Addr) = some y ∧ W.cell? (y.add j) = some u := by
      intro j u hj
      refine ⟨_, rfl, ?_⟩
      rw [Lib.addr_add, hW, World.cell?_drewN]; exact HSRC.out j u hj
    have d0 := hSW.c0
    have d1 := hSW.c1
    have d2 := hSW.c2
    obtain ⟨W3, hcp, r0, r1, r2, r3, hfin⟩ := hSW.copy_run _ n c n hcs (Nat.min_eq_left hroom).symm hsrc h1
    have HEND : Hid (∀ q : Nat, q = pend.length + n → Done b R s (bs ++ pend ++ cs) v wr (W3.setCell ⟨s, 2, none⟩ (.int .i64 q))) := by
      intro q hq
      obtain ⟨s1, s2⟩ := hfin q hq
      refine ⟨bs, _, v, ?_, s1, hMW.out.trans s2⟩
      rw [List.take_of_length_le (by omega), List.append_assoc]
    clear hfin hSW hsrc c0 c1 c2 hW HS HSRC
    rw [if_neg (by omega)] at hcp
    go_wp2
    go_region_held3 (fun w' => w'.cell? ⟨s, 0, none⟩ = some .nilIface ∧ w'.cell? ⟨s, 1, none⟩ = some (.slice (some ⟨R, 0, none⟩) 16384 16384) ∧ w'.cell? ⟨s, 2, none⟩ = some (.int .i64 (pend.length : Nat))) (go_keep) (fail)
    go_wp2
    go_ret2
    exact ⟨ret_pair (by omega), end_cast (T := Done b R s (bs ++ pend ++ cs) v wr) HEND.out⟩

/-- AvailableBuffer. -/
theorem availBuf_any (s R p : Nat) (w : World) (c1 : w.cell? ⟨s, 1, none⟩ = some (.slice (some ⟨R, 0, none⟩) 16384 16384)) (c2 : w.cell? ⟨s, 2, none⟩ = some (.int .i64 p)) (hp : p ≤ 16384) :
    Calls Tryd.prog 20 #[.pointer (some ⟨s, 0, none⟩)] w fun e w' => e = .returned (.slice (if 16384 = p then some ⟨R, 0, none⟩ else some ⟨R, p, none⟩) 0 (16384 - p)) ∧ ∃ k, w' = w.drewN k := by
  have hp0 : (0 : Int) ≤ (p : Int) := by omega
  have hp1 : (p : Int) ≤ 16384 := by omega
  by_cases he : 16384 = p
  · subst he
    go_enter Tryd.func20, Tryd.ntmps20
    go_wp2
    go_quiet (fail)
    go_wp2
    go_ret
    exact ⟨rfl, _, rfl⟩
  · rw [if_neg he]
    go_enter Tryd.func20, Tryd.ntmps20
    go_wp2
    go_quiet (fail)
    go_wp2
    go_ret
    exact ⟨rfl, _, rfl⟩
end Go.Proofs.Qxb6614495aDoor
