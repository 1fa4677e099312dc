/-
  Write of a header that was appended onto the writer's own room.
-/
import Derived.Test.Qxb6614495aDoorMv
import Derived.Test.Qxb6614495aDoorSelf
namespace Go.Proofs.Qxb6614495aDoor
open Go.RowKit

theorem own_lt_sink {b R s : Nat} {bs pend : List Value} {v : Value} {W : World} (h : Sink b R s bs pend v W) {k : Nat} (hk : v.ownBlock = some k) : k < W.heap.size := by
  rcases h.buf.row with ⟨rfl, _⟩ | ⟨g, cap, cg, rfl, _, hg, _⟩
  · simp [Value.ownBlock] at hk
  · simp [Value.ownBlock] at hk; subst hk; exact (Array.getElem?_eq_some_iff.1 hg).1

theorem write_hdr {b R s : Nat} {bs pend : List Value} {v : Value} {W : World} (h : Sink b R s bs pend v W) {w : World} {u : Value} {m : Nat} {ks : List Value} {r : Nat}
    (hU : Upon W 5 1 (if 16384 = pend.length then some ⟨R, 0, none⟩ else some ⟨R, pend.length, none⟩) R pend.length 0 (16384 - pend.length) [] w u m ks r) (hm : 1 ≤ m) (hone : ∀ x ∈ ks, x.oneCell' = true) (hlim : bs.length + pend.length + m ≤ 70368744177664) :
    Calls Tryd.prog 18 #[.pointer (some ⟨s, 0, none⟩), u] w fun e w' => e = .returned (.tuple #[.int .i64 m, .nilIface]) ∧ ∃ bs' pend' v', bs' ++ pend' = bs ++ pend ++ ks ∧ Sink b R s bs' pend' v' w' ∧ Mv b R s v v' W w' := by
  obtain ⟨hS, hMv⟩ := h.upon hU
  have hkl : ks.length = m := by have := hU.ksLen; omega
  have hfin : ∀ (e : Ending) (w' : World), (e = .returned (.tuple #[.int .i64 m, .nilIface]) ∧ Done b R s (bs ++ pend ++ ks) v w w') → e = .returned (.tuple #[.int .i64 m, .nilIface]) ∧ ∃ bs' pend' v', bs' ++ pend' = bs ++ pend ++ ks ∧ Sink b R s bs' pend' v' w' ∧ Mv b R s v v' W w' := by
    rintro e w' ⟨he, bs', pend', v', h1, h2, h3⟩
    exact ⟨he, bs', pend', v', h1, h2, hMv.trans h3.mv⟩
  rcases hU.val with ⟨hle, hu, hr⟩ | ⟨hgt, g, c', hu, ho⟩
  · have hp : ¬ 16384 = pend.length := by omega
    rw [if_neg hp, Nat.zero_add] at hu
    subst hu
    refine (write_fits b R s bs pend ks v w hS R pend.length m (16384 - pend.length) hkl hm (by omega) (by unfold maxLen; omega) (by omega) (fun j x hj => ?_) hone).mono hfin
    have hj' := (List.getElem?_eq_some_iff.1 hj).1
    have := hU.inArray h.came (by omega) hr j (by omega)
    rw [this]; exact hj
  · rw [Nat.zero_add] at hu
    subst hu
    have hgn := ho.new
    obtain ⟨lr, hb⟩ := h.buf.blk
    obtain ⟨cur, hR, _⟩ := h.row
    have l1 := (Array.getElem?_eq_some_iff.1 hb).1
    have l2 := (Array.getElem?_eq_some_iff.1 hR).1
    have l3 := (Array.getElem?_eq_some_iff.1 h.str).1
    refine (write_any b R s bs pend ks v w hS g 0 m c' hkl (by have := ho.le; omega) ho.max ⟨by omega, by omega, by omega, fun e => by have := own_lt_sink h e; omega⟩ (fun j x hj => ?_) hone hlim).mono hfin
    have hj' := (List.getElem?_eq_some_iff.1 hj).1
    rw [Nat.zero_add, ho.holds j (by omega)]
    exact hj
end Go.Proofs.Qxb6614495aDoor
