/-
  (*Writer).Bulk.
-/
import Derived.Test.Qxb6614495aDoorHdr
import Derived.Test.Qxb6614495aDoorEmpty
import Derived.Test.Qxb6614495aDoorWstr
import Derived.Test.Qxb6614495aDoorClone
import Derived.Deep.RegionWith
import Derived.Lib.ItoaLen
namespace Go.Proofs.Qxb6614495aDoor
open Go.RowKit Go.Shelf

theorem TabOk.drewN {W : World} {b : Nat} (h : TabOk W b) (k : Nat) : TabOk (W.drewN k) b := fun w' hk => h w' hk

/-- Behind a step of the sink's: the whole is tot, the frame Mv. -/
def DoneM (b R s : Nat) (tot : List Value) (v : Value) (w w' : World) : Prop := ∃ bs' pend' v', bs' ++ pend' = tot ∧ Sink b R s bs' pend' v' w' ∧ Mv b R s v v' w w'

theorem hdr_one (n : Nat) : ∀ x ∈ hdr n, x.oneCell' = true := by
  intro x hx
  unfold hdr at hx
  simp only [List.mem_append, List.mem_cons, List.not_mem_nil, or_false] at hx
  rcases hx with (rfl | hx) | (rfl | rfl)
  · rfl
  · obtain ⟨y, _, rfl⟩ := List.mem_map.1 hx; rfl
  · rfl
  · rfl

theorem write_hdr2 {b R s : Nat} {bs pend : List Value} {v : Value} {w : World} (h : Sink b R s bs pend v w) {ao : Option Addr} (hao : Hid ((if 16384 = pend.length then some (⟨R, 0, none⟩ : Addr) else some ⟨R, pend.length, none⟩) = ao)) (k n : Nat) {H : List Value} {m : Nat} (hH : Hid (hdr n = H ∧ H.length = m)) {w2 : World} {u : Value} {r : Nat}
    (hU : Hid (Upon (w.drewN k) 5 1 ao R pend.length 0 (16384 - pend.length) [] w2 u m H r)) (hlim : bs.length + pend.length + m ≤ 70368744177664) :
    Calls Tryd.prog 18 #[.pointer (some ⟨s, 0, none⟩), u] w2 fun e w' => e = .returned (.tuple #[.int .i64 m, .nilIface]) ∧ DoneM b R s (bs ++ pend ++ H) v w w' := by
  have hU2 := hU.out
  obtain ⟨rfl, rfl⟩ := hH.out
  rw [← hao.out] at hU2
  refine (write_hdr (h.drewN k) hU2 (by simp [hdr]) (hdr_one n) hlim).mono ?_
  rintro e w' ⟨rfl, bs', pend', v', h1, h2, h3⟩
  exact ⟨rfl, bs', pend', v', h1, h2, ⟨h3.os, h3.output, h3.size, h3.block, h3.new⟩⟩

theorem hdr_le (n : Nat) (h : n ≤ 1048576) : (hdr n).length ≤ 30 := by
  have h1 := Lib.nDigits_le20 n (by omega)
  simp [hdr, Lib.byteCells, Lib.decDigits_length]
  omega

theorem DoneM.crlf {b R s : Nat} {tot : List Value} {v : Value} {w w3 : World} (h : DoneM b R s tot v w w3) (hlim : tot.length ≤ 70368744177664) :
    Calls Tryd.prog 21 #[.pointer (some ⟨s, 0, none⟩), .string ⟨#[13, 10]⟩] w3 fun e w' => e = .returned (.tuple #[.int .i64 2, .nilIface]) ∧ DoneM b R s (tot ++ [.int .u8 13, .int .u8 10]) v w w' := by
  obtain ⟨bs, pend, v', ht, hS, hM⟩ := h
  have hl := congrArg List.length ht
  rw [List.length_append] at hl
  refine (wstr_any b R s bs pend v' w3 hS ⟨#[13, 10]⟩ (by decide) (by decide) (by omega)).mono ?_
  rintro e w' ⟨he, bs', pend', v'', h1, h2, h3⟩
  rw [ht] at h1
  exact ⟨he, bs', pend', v'', h1, h2, hM.trans h3.mv⟩

theorem DoneM.write {b R s : Nat} {tot : List Value} {v : Value} {w w3 : World} (h : DoneM b R s tot v w w3) {a : Option Addr} {n c : Nat} {l : List Int} (hu : BytesAt w (.slice a n c) l) (hc : n ≠ 0 → ∀ k o, a = some ⟨k, o, none⟩ → Cold b R s v k) (hlim : tot.length + n ≤ 70368744177664) :
    Calls Tryd.prog 18 #[.pointer (some ⟨s, 0, none⟩), .slice a n c] w3 fun e w' => e = .returned (.tuple #[.int .i64 n, .nilIface]) ∧ DoneM b R s (tot ++ cells l) v w w' := by
  obtain ⟨bs, pend, v', ht, hS, hM⟩ := h
  have hl := congrArg List.length ht
  rw [List.length_append] at hl
  obtain ⟨a', n', c', e, q1, q2, q3, q4, q5⟩ := hu
  injection e with e1 e2 e3
  subst e1 e2 e3
  by_cases h0 : n = 0
  · subst h0
    obtain rfl : l = [] := List.eq_nil_of_length_eq_zero q1
    refine (write_empty b R s bs pend v' w3 hS a c).mono ?_
    rintro e w' ⟨he, bs', pend', v'', h1, h2, h3⟩
    exact ⟨he, bs', pend', v'', by rw [h1, ht]; simp [cells], h2, hM.trans h3.mv⟩
  · obtain ⟨x0, hx0⟩ : ∃ x, l[0]? = some x := ⟨_, List.getElem?_eq_getElem (by omega)⟩
    obtain ⟨_, _, xb, xo, rfl, _⟩ := q5 0 x0 hx0
    have hcold := hc h0 xb xo rfl
    have hsrc : ∀ j u, (cells l)[j]? = some u → w3.cell? ⟨xb, xo + j, none⟩ = some u := by
      intro j u hj
      obtain ⟨y, hy, rfl⟩ := cells_at hj
      obtain ⟨_, _, b', o', e, hcell⟩ := q5 j y hy
      injection e with e; injection e with e1 e2; subst e1 e2
      exact (World.cell?_of_block (hM.block xb (World.block_lt_of_cell? w _ hcell) hcold)).trans hcell
    have hlt : xb < w.heap.size := by
      obtain ⟨_, _, b', o', e, hcell⟩ := q5 0 x0 hx0
      injection e with e; injection e with e1 e2; subst e1 e2
      exact World.block_lt_of_cell? w _ hcell
    refine (write_any b R s bs pend (cells l) v' w3 hS xb xo n c (by rw [cells_length, q1]) q2 q3 (hM.cold hlt hcold) hsrc (cells_one l) (by omega)).mono ?_
    rintro e w' ⟨he, bs', pend', v'', h1, h2, h3⟩
    exact ⟨he, bs', pend', v'', by rw [h1, ht], h2, hM.trans h3.mv⟩

theorem DoneM.at {b R s : Nat} {tot : List Value} {v : Value} {w w3 : World} (h : DoneM b R s tot v w w3) {x : Nat} {o : Obj} (hx : w.heap[x]? = some o) (hc : Cold b R s v x) : w3.heap[x]? = some o := by
  obtain ⟨_, _, _, _, _, hM⟩ := h
  exact (hM.block x (Array.getElem?_eq_some_iff.1 hx).1 hc).trans hx

set_option maxHeartbeats 4000000 in
set_option maxRecDepth 100000 in
theorem bulk_any (b R s x : Nat) (bs pend : List Value) (v : Value) (w : World) (h : Sink b R s bs pend v w) (hx : w.heap[x]? = some (.cells #[.pointer (some ⟨s, 0, none⟩)] 52 (0, 0))) (hxc : Cold b R s v x) (ht : TabOk w R) (a : Option Addr) (n c : Nat) (hn : n ≤ 1048576) (hlim : bs.length + pend.length + 2000000 ≤ 70368744177664) (l : List Int) (hu : BytesAt w (.slice a n c) l) (hc : n ≠ 0 → ∀ k o, a = some ⟨k, o, none⟩ → Cold b R s v k) :
    Calls Tryd.prog 9 #[.pointer (some ⟨x, 0, none⟩), .slice a n c] w fun e w' => e = .returned (.tuple #[]) ∧ DoneM b R s (bs ++ pend ++ hdr n ++ cells l ++ [.int .u8 13, .int .u8 10]) v w w' := by
  have hmx : Tryd.prog.follows .mixedOrders = true := by kernel_rfl
  have c0 : ∀ k, (w.drewN k).cell? ⟨x, 0, none⟩ = some (.pointer (some ⟨s, 0, none⟩)) := fun k => by rw [World.cell?_drewN, Lib.cell_of_heap hx]; rfl
  have c00 : w.cell? ⟨x, 0, none⟩ = some (.pointer (some ⟨s, 0, none⟩)) := by rw [Lib.cell_of_heap hx]; rfl
  have hD := h.drew
  have hav := availBuf_any s R pend.length w.drew hD.c1 hD.c2 hD.fit
  have hcame := hD.came
  obtain ⟨ao, hao⟩ : ∃ ao, Hid ((if 16384 = pend.length then some (⟨R, 0, none⟩ : Addr) else some ⟨R, pend.length, none⟩) = ao) := ⟨_, rfl⟩
  rw [hao.out] at hav hcame
  obtain ⟨H, m, HH⟩ : ∃ H m, Hid (hdr n = H ∧ H.length = m) := ⟨_, _, rfl, rfl⟩
  have hm : m ≤ 30 := by obtain ⟨rfl, rfl⟩ := HH.out; exact hdr_le n hn
  obtain ⟨c', hc'⟩ : ∃ c', 16384 - pend.length = c' := ⟨_, rfl⟩
  have hhd : ∀ k, Calls Tryd.prog 19 #[.slice ao 0 c', .int .u8 36, .int .i64 n] (w.drewN k) fun e w' => ∃ va vc r', e = .returned (.slice va m vc) ∧ Hid (Upon (w.drewN k) 5 1 ao R pend.length 0 c' [] w' (.slice va m vc) m H r') := fun k => by
    subst hc'
    have hC : Came (w.drewN k) 1 ao R pend.length 0 (16384 - pend.length) [] := ⟨hcame.le, hcame.addr, hcame.lt, hcame.oldsLen, hcame.olds, hcame.spare⟩
    refine (header_any hC (ht.drewN k) n hn _ _ 0 [] 0 (Upon.start hC) (by omega)).mono ?_
    rintro e w' ⟨v', r', he, hU⟩
    obtain ⟨rfl, rfl⟩ := HH.out
    rw [Nat.zero_add, List.nil_append] at hU
    obtain ⟨va, vc, rfl⟩ := hU.shape
    rw [Nat.zero_add] at he hU
    exact ⟨va, vc, r', he, hU⟩
  have hcx : ∀ k w2 u m ks r, Hid (Upon (w.drewN k) 5 1 ao R pend.length 0 c' [] w2 u m ks r) → w2.cell? ⟨x, 0, none⟩ = some (.pointer (some ⟨s, 0, none⟩)) := fun k w2 u m ks r hU => by
    subst hc'
    have hk := ((h.drewN k).upon hU.out).2.block x (Array.getElem?_eq_some_iff.1 hx).1 hxc
    exact (World.cell?_of_block hk).trans (c0 k)
  have hw18 : ∀ k w2 u r, Hid (Upon (w.drewN k) 5 1 ao R pend.length 0 c' [] w2 u m H r) → _ := fun k w2 u r hU => write_hdr2 (w2 := w2) (u := u) (r := r) h hao k n HH (by subst hc'; exact hU) (by omega)
  have hcx3 : ∀ tot w3, DoneM b R s tot v w w3 → w3.cell? ⟨x, 0, none⟩ = some (.pointer (some ⟨s, 0, none⟩)) := fun tot w3 hD3 => by
    rw [Lib.cell_of_heap (hD3.at hx hxc)]; rfl
  have hHl : H.length = m := HH.out.2
  have hw2 : ∀ w3, DoneM b R s (bs ++ pend ++ H) v w w3 → _ := fun w3 hD3 => hD3.write hu hc (by simp only [List.length_append]; omega)
  have hln : l.length = n := by obtain ⟨_, _, _, e, q, _⟩ := hu; injection e with _ e2; omega
  have hw4 : ∀ w3, DoneM b R s (bs ++ pend ++ H ++ cells l) v w w3 → _ := fun w3 hD3 => hD3.crlf (by simp only [List.length_append, cells_length]; omega)
  rw [hc'] at hav
  clear hD hcame hc' hu hc hx hxc ht hHl h hln
  rw [HH.out.1]
  go_enter Tryd.func9, Tryd.ntmps9
  go_wp2
  go_region_with (first
    | (go_at_call 20; refine hav.mono ?_; rintro e w' ⟨rfl, k, rfl⟩)
    | (go_at_call 19; refine (hhd _).mono ?_; rintro e w2 ⟨va2, vc2, r2, rfl, HU⟩; have c2 := hcx _ _ _ _ _ _ HU)
    | (go_at_call 18; refine (hw18 _ _ _ _ HU).mono ?_; rintro e w3 ⟨rfl, HD⟩))
  all_goals
    clear hav hhd hw18 HU c2 c00 c0 hcx
    have c3 := hcx3 _ _ HD
    have hw3 := hw2 _ HD
    clear hw2
    go_wp2_with (first
      | (go_at_call 18; refine hw3.mono ?_; rintro e w4 ⟨rfl, HD4⟩; have c4 := hcx3 _ _ HD4)
      | (go_at_call 21; refine (hw4 _ HD4).mono ?_; rintro e w5 ⟨rfl, HD5⟩))
    go_end0
    exact ⟨rfl, HD5⟩
end Go.Proofs.Qxb6614495aDoor
