/-
  (*bufio.Writer).Write of nothing.
-/
import Derived.Test.Qxb6614495aDoorBufio
namespace Go.Proofs.Qxb6614495aDoor
open Go.RowKit
attribute [local go_sem ↓] Go.wp_at_zero Go.wp_at_succ

set_option maxHeartbeats 4000000 in
set_option maxRecDepth 100000 in
theorem write_empty (b R s : Nat) (bs pend : List Value) (v : Value) (w : World) (h : Sink b R s bs pend v w) (a : Option Addr) (c : Nat) :
    Calls Tryd.prog 18 #[.pointer (some ⟨s, 0, none⟩), .slice a 0 c] w fun e w' => e = .returned (.tuple #[.int .i64 0, .nilIface]) ∧ Done b R s (bs ++ pend) v w w' := by
  have c0 := h.c0
  have c1 := h.c1
  have c2 := h.c2
  have hfit := h.fit
  have HS : Hid (Sink b R s bs pend v w) := h
  have hroom' : (0 : Int) ≤ 16384 - (pend.length : Int) := by omega
  clear h
  go_enter Tryd.func18, Tryd.ntmps18
  go_wp2
  go_loopw [1, 4] (fun t1 t4 wr => t1 = .slice a 0 c ∧ t4 = .int .i64 0 ∧ wr = w) (fun _ _ _ => 0)
  case atStart => exact ⟨rfl, rfl, rfl⟩
  case round =>
    obtain ⟨rfl, rfl, hwr⟩ := hrel
    subst hwr
    go_wp2_with (go_at_call 26; refine (avail_any s R pend.length _ c1 c2 hfit).mono ?_)
    rintro e W ⟨rfl, k, hW⟩
    have hSW : Sink b R s bs pend v W := by rw [hW]; exact HS.out.drewN k
    have hMW : Hid (Moves b R s v v wr W) := by rw [hW]; exact (Moves.refl _ _ _ _ _).drewN k
    have d0 := hSW.c0
    have d1 := hSW.c1
    have d2 := hSW.c2
    obtain ⟨W3, hcp, r0, r1, r2, r3, hfin⟩ := hSW.copy_run (cs := []) a 0 c 0 rfl (Nat.zero_min _).symm (fun j u hj => by simp at hj) (fun u hu => by cases hu)
    have HEND : Hid (Done b R s (bs ++ pend) v wr (W3.setCell ⟨s, 2, none⟩ (.int .i64 (pend.length : Nat)))) := by
      obtain ⟨s1, s2⟩ := hfin pend.length rfl
      exact ⟨bs, _, v, by simp, s1, hMW.out.trans s2⟩
    clear hfin hSW c0 c1 c2 hW HS
    rcases Nat.lt_or_ge pend.length 16384 with hlt | hge
    · have hlt' : (pend.length : Int) < 16384 := by omega
      have hp0 : (0 : Int) ≤ (pend.length : Int) := by omega
      have hp1 : (pend.length : Int) ≤ 16384 := by omega
      have hne : ¬ 16384 = pend.length := by omega
      rw [if_neg hne] at hcp
      go_wp2
      go_region_held3 (fun w' => w'.cell? ⟨s, 0, none⟩ = some .nilIface ∧ w'.cell? ⟨s, 1, none⟩ = some (.slice (some ⟨R, 0, none⟩) 16384 16384) ∧ w'.cell? ⟨s, 2, none⟩ = some (.int .i64 (pend.length : Nat))) (go_keep) (fail)
      go_wp2
      go_ret2
      exact ⟨rfl, HEND.out⟩
    · have hpl : pend.length = 16384 := by omega
      have HE : Hid (Done b R s (bs ++ pend) v wr (W3.setCell ⟨s, 2, none⟩ (.int .i64 16384))) := by
        have := HEND.out
        rw [hpl] at this
        exact this
      rw [hpl] at d2 hcp r2
      simp only [if_pos] at hcp
      clear hpl HEND
      go_wp2
      go_region_held3 (fun w' => w'.cell? ⟨s, 0, none⟩ = some .nilIface ∧ w'.cell? ⟨s, 1, none⟩ = some (.slice (some ⟨R, 0, none⟩) 16384 16384) ∧ w'.cell? ⟨s, 2, none⟩ = some (.int .i64 16384)) (go_keep) (fail)
      go_wp2
      go_ret2
      exact ⟨rfl, HE.out⟩
end Go.Proofs.Qxb6614495aDoor
