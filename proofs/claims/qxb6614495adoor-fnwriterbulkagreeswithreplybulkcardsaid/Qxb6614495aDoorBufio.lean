/-
  (*bufio.Writer).Write.
-/
import Derived.Test.Qxb6614495aDoorFlush
namespace Go.Proofs.Qxb6614495aDoor
open Go.RowKit
attribute [local go_sem ↓] Go.wp_at_zero Go.wp_at_succ

/-- 'n := copy(b.buf[b.n:], p); b.n += n'. -/
theorem Sink.copied {b R s : Nat} {bs pend chunk : List Value} {v : Value} {W : World} (h : Sink b R s bs pend v W) (hfit : pend.length + chunk.length ≤ 16384) (hone : ∀ u ∈ chunk, u.oneCell' = true)
    {cur : Array Value} (hR : W.heap[R]? = some (.cells cur 5 (0, 0))) {m : Nat} (hm : m = pend.length + chunk.length) :
    Sink b R s bs (pend ++ chunk) v ((W.setRow R (cur.toList.take pend.length ++ chunk ++ cur.toList.drop (pend.length + chunk.length)).toArray).setCell ⟨s, 2, none⟩ (.int .i64 m)) ∧
    Moves b R s v v W ((W.setRow R (cur.toList.take pend.length ++ chunk ++ cur.toList.drop (pend.length + chunk.length)).toArray).setCell ⟨s, 2, none⟩ (.int .i64 m)) := by
  subst hm
  obtain ⟨cur', hR', hsz, htk⟩ := h.row
  rw [hR] at hR'
  obtain rfl : cur = cur' := by injection hR' with e; injection e
  generalize harr : (cur.toList.take pend.length ++ chunk ++ cur.toList.drop (pend.length + chunk.length)).toArray = arr
  have ha : arr.toList = pend ++ chunk ++ cur.toList.drop (pend.length + chunk.length) := by rw [← harr, List.toList_toArray, htk]
  have hasz : arr.size = 16384 := by
    have : arr.toList.length = 16384 := by rw [ha]; simp [hsz]; omega
    simpa using this
  obtain ⟨⟨lr, hb⟩, hrow⟩ := h.buf
  have hs3 : (W.setRow R arr).heap[s]? = W.heap[s]? := heap_setRow_other _ _ _ _ h.ne_sR
  refine ⟨⟨⟨⟨lr, ?_⟩, ?_⟩, h.one, ?_, ⟨arr, ?_, hasz, ?_⟩, by rw [List.length_append]; exact hfit, ?_, h.nv⟩, ?_⟩
  · rw [Below.heap_setCell _ _ _ _ (Ne.symm h.ne_sb), heap_setRow_other _ _ _ _ h.ne_bR]; exact hb
  · rcases hrow with h1 | ⟨g, cap, cg, h1, h2, h3, h4⟩
    · exact .inl h1
    · have hgs : g ≠ s := (ne_of_types h3 h.str (by decide))
      have hgR : g ≠ R := fun e => h.nv (by rw [h1, ← e]; rfl)
      exact .inr ⟨g, cap, cg, h1, h2, by rw [Below.heap_setCell _ _ _ _ hgs, heap_setRow_other _ _ _ _ hgR]; exact h3, h4⟩
  · have := heap_setCell_same (W.setRow R arr) s 2 _ _ (.int .i64 ((pend.length + chunk.length : Nat) : Int)) (hs3.trans h.str)
    rw [List.length_append]
    exact this
  · rw [Below.heap_setCell _ _ _ _ (Ne.symm h.ne_sR)]; exact heap_setRow_same hR _
  · rw [ha, List.take_left' rfl]
  · intro u hu
    rcases List.mem_append.1 hu with h1 | h1
    · exact h.onep u h1
    · exact hone u h1
  · refine ⟨rfl, rfl, rfl, by rw [World.size_setCell, size_setRow]; exact Nat.le_refl _, fun k hk hc => ?_, fun k e => .inl e⟩
    rw [Below.heap_setCell _ _ _ _ hc.2.2.1, heap_setRow_other _ _ _ _ hc.2.1]

theorem Sink.str_row {b R s : Nat} {bs pend : List Value} {v : Value} {W : World} (h : Sink b R s bs pend v W) (arr : Array Value) :
    (W.setRow R arr).cell? ⟨s, 0, none⟩ = some .nilIface ∧ (W.setRow R arr).cell? ⟨s, 1, none⟩ = some (.slice (some ⟨R, 0, none⟩) 16384 16384) ∧ (W.setRow R arr).cell? ⟨s, 2, none⟩ = some (.int .i64 (pend.length : Nat)) ∧
      (W.setRow R arr).frozen? ⟨s, 2, none⟩ = false := by
  have hs : (W.setRow R arr).heap[s]? = some _ := (heap_setRow_other _ _ _ _ h.ne_sR).trans h.str
  exact ⟨by rw [Lib.cell_of_heap hs]; rfl, by rw [Lib.cell_of_heap hs]; rfl, by rw [Lib.cell_of_heap hs]; rfl, Lib.frozen_of_heap hs 2⟩

/-- 'copy(b.buf[b.n:], p)': the run's equation, and what it leaves, in the world as it stands in the region. -/
theorem Sink.copy_run {b R s : Nat} {bs pend cs : List Value} {v : Value} {W : World} (h : Sink b R s bs pend v W) (a : Option Addr) (n c q : Nat) (hcs : cs.length = n) (hq : q = Nat.min n (16384 - pend.length))
    (hsrc : ∀ j u, cs[j]? = some u → ∃ x, a = some x ∧ W.cell? (x.add j) = some u) (h1 : ∀ u ∈ cs, u.oneCell' = true) :
    ∃ W3, (Builtin.copy_ #[24, 24] 3 #[.slice (if 16384 = pend.length then some ⟨R, 0, none⟩ else some ⟨R, pend.length, none⟩) (16384 - pend.length) (16384 - pend.length), .slice a n c]).run Tryd.prog W.drew = .ok (.int .i64 (q : Nat)) W3 ∧
      W3.cell? ⟨s, 0, none⟩ = some .nilIface ∧ W3.cell? ⟨s, 1, none⟩ = some (.slice (some ⟨R, 0, none⟩) 16384 16384) ∧ W3.cell? ⟨s, 2, none⟩ = some (.int .i64 (pend.length : Nat)) ∧ W3.frozen? ⟨s, 2, none⟩ = false ∧
      ∀ m : Nat, m = pend.length + q → Sink b R s bs (pend ++ cs.take q) v (W3.setCell ⟨s, 2, none⟩ (.int .i64 m)) ∧ Moves b R s v v W (W3.setCell ⟨s, 2, none⟩ (.int .i64 m)) := by
  have hD := h.drew
  have hfit := h.fit
  obtain ⟨cur, hR, hsz, htk⟩ := hD.row
  by_cases hq0 : q = 0
  · subst hq0
    obtain ⟨r0, r1, r2, r3⟩ := hD.str_row cur
    have hself : W.drew.setRow R cur = W.drew := setRow_self _ _ _ _ _ hR
    rw [hself] at r0 r1 r2 r3
    refine ⟨W.drew, run_copy_none W.drew 24 24 3 5 _ a _ _ n c Tryd.underlying24 size5 (by rw [← hq]), r0, r1, r2, r3, fun m hm => ?_⟩
    obtain ⟨s1, s2⟩ := hD.copied (chunk := []) (by simpa using hfit) (fun u hu => by simp at hu) hR (m := m) (by simpa using hm)
    have harr : (cur.toList.take pend.length ++ [] ++ cur.toList.drop (pend.length + ([] : List Value).length)).toArray = cur := by simp
    rw [harr, hself] at s1 s2
    exact ⟨by simpa using s1, s2.os, s2.tape, s2.output, s2.size, s2.block, s2.new⟩
  · have hlt : pend.length < 16384 := by
      have : Nat.min n (16384 - pend.length) ≤ 16384 - pend.length := Nat.min_le_right _ _
      omega
    have hqn : q ≤ n := by rw [hq]; exact Nat.min_le_left _ _
    have hq2 : q ≤ 16384 - pend.length := by rw [hq]; exact Nat.min_le_right _ _
    have hn0 : 0 < cs.length := by omega
    obtain ⟨x, rfl, _⟩ := hsrc 0 _ (List.getElem?_eq_getElem hn0)
    have hlen : (cs.take q).length = q := by rw [List.length_take, hcs]; omega
    rw [if_neg (by omega)]
    have hcp := run_copy_row (P := Tryd.prog) W.drew 24 24 3 5 R pend.length (16384 - pend.length) (16384 - pend.length) x n c cur 5 (cs.take q) Tryd.underlying24 size5 hR (by rw [hlen, hq])
      (fun j u hj => by
        rw [List.getElem?_take] at hj
        split at hj
        · obtain ⟨y, e, hy⟩ := hsrc j u hj
          cases e; exact hy
        · cases hj) (by rw [hlen, hsz]; omega) (fun u hu => h1 u (List.mem_of_mem_take hu))
    rw [hlen] at hcp
    obtain ⟨r0, r1, r2, r3⟩ := hD.str_row (cur.toList.take pend.length ++ cs.take q ++ cur.toList.drop (pend.length + q)).toArray
    refine ⟨_, hcp, r0, r1, r2, r3, fun m hm => ?_⟩
    obtain ⟨s1, s2⟩ := hD.copied (chunk := cs.take q) (by rw [hlen]; omega) (fun u hu => h1 u (List.mem_of_mem_take hu)) hR (m := m) (by rw [hlen]; exact hm)
    rw [hlen] at s1 s2
    exact ⟨s1, s2.os, s2.tape, s2.output, s2.size, s2.block, s2.new⟩

/-- Straight to the buffer: 'n, b.err = b.wr.Write(p)'. -/
theorem direct {b R s : Nat} {bs ch : List Value} {v v' : Value} {w w' : World} (h : Sink b R s bs [] v w) (hB : BufAt b (bs ++ ch) v' w') (hS : Shift b v v' w w') (hone : ∀ u ∈ ch, u.oneCell' = true) :
    Sink b R s (bs ++ ch) [] v' (w'.setCell ⟨s, 0, none⟩ .nilIface) ∧ Moves b R s v v' w (w'.setCell ⟨s, 0, none⟩ .nilIface) := by
  have hs : w'.heap[s]? = w.heap[s]? := hS.block s (Array.getElem?_eq_some_iff.1 h.str).1 h.ne_sb h.ns
  obtain ⟨cur, hR, hsz, htk⟩ := h.row
  have hR' : w'.heap[R]? = some (.cells cur 5 (0, 0)) := (hS.block R (Array.getElem?_eq_some_iff.1 hR).1 (Ne.symm h.ne_bR) h.nv).trans hR
  obtain ⟨⟨lr, hb⟩, hrow⟩ := hB
  have hsv : ∀ g, v'.ownBlock = some g → g ≠ s := by
    intro g hg e
    rcases hS.new g hg with h1 | h1
    · rw [e] at h1; exact h.ns h1
    · rw [e] at h1; have := (Array.getElem?_eq_some_iff.1 h.str).1; omega
  refine ⟨⟨⟨⟨lr, ?_⟩, ?_⟩, ?_, ?_, ⟨cur, ?_, hsz, rfl⟩, Nat.zero_le _, fun u hu => by simp at hu, ?_⟩, (Moves.of_shift hS).setCell ⟨s, 0, none⟩ (.inl rfl) _⟩
  · rw [Below.heap_setCell _ _ _ _ (Ne.symm h.ne_sb)]; exact hb
  · rcases hrow with ⟨h1, h2⟩ | ⟨g, cap, cg, h1, h2, h3, h4⟩
    · exact .inl ⟨h1, h2⟩
    · refine .inr ⟨g, cap, cg, h1, h2, ?_, h4⟩
      rw [Below.heap_setCell _ _ _ _ (hsv g (by rw [h1]; rfl))]; exact h3
  · intro u hu
    rcases List.mem_append.1 hu with h1 | h1
    · exact h.one u h1
    · exact hone u h1
  · exact heap_setCell_same w' s 0 _ _ _ (hs.trans h.str)
  · rw [Below.heap_setCell _ _ _ _ (Ne.symm h.ne_sR)]; exact hR'
  · intro e
    rcases hS.new R e with h1 | h1
    · exact h.nv h1
    · have := (Array.getElem?_eq_some_iff.1 hR).1; omega

theorem ret_pair {x y : Int} {u : Value} (h : x = y) : Ending.returned (.tuple #[.int .i64 x, u]) = .returned (.tuple #[.int .i64 y, u]) := by rw [h]
theorem end_cast {p m : Nat} {T : World → Prop} {W : World} {s : Nat} (h : ∀ q : Nat, q = p + m → T (W.setCell ⟨s, 2, none⟩ (.int .i64 q))) : T (W.setCell ⟨s, 2, none⟩ (.int .i64 ((p : Int) + (m : Int)))) := by
  have := h (p + m) rfl
  rwa [Int.natCast_add] at this

/-- All of it has been taken. -/
def Done (b R s : Nat) (tot : List Value) (v : Value) (w w' : World) : Prop := ∃ bs' pend' v', bs' ++ pend' = tot ∧ Sink b R s bs' pend' v' w' ∧ Moves b R s v v' w w'

/-- What Write's loop keeps: i bytes of p have been taken. -/
structure Wrote (b R s : Nat) (bs pend cs : List Value) (v : Value) (w : World) (n : Nat) (x : Addr) (i c' : Nat) (a' : Option Addr) (bs' pend' : List Value) (v' : Value) (wr : World) : Prop where
  le : i ≤ n
  cap : n - i ≤ c'
  capm : c' ≤ 9223372036854775807
  addr : i < n → a' = some (x.add i)
  sum : bs' ++ pend' = bs ++ pend ++ cs.take i
  sink : Sink b R s bs' pend' v' wr
  moves : Moves b R s v v' w wr

set_option maxHeartbeats 4000000 in
set_option maxRecDepth 100000 in
theorem write_any (b R s : Nat) (bs pend cs : List Value) (v : Value) (w : World) (h : Sink b R s bs pend v w) (xb xo n c : Nat) (hcs : cs.length = n) (hnc : n ≤ c) (hcm : c ≤ maxLen)
    (hcold : Cold b R s v xb) (hsrc : ∀ j u, cs[j]? = some u → w.cell? ⟨xb, xo + j, none⟩ = some u) (h1 : ∀ u ∈ cs, u.oneCell' = true) (hlim : bs.length + pend.length + n ≤ 70368744177664) :
    Calls Tryd.prog 18 #[.pointer (some ⟨s, 0, none⟩), .slice (some ⟨xb, xo, none⟩) n c] w fun e w' => e = .returned (.tuple #[.int .i64 n, .nilIface]) ∧ Done b R s (bs ++ pend ++ cs) v w w' := by
  unfold maxLen at hcm
  have H0 : Hid (Wrote b R s bs pend cs v w n ⟨xb, xo, none⟩ 0 c (some ⟨xb, xo, none⟩) bs pend v w) := ⟨Nat.zero_le _, by omega, hcm, fun _ => by rw [Lib.addr_add]; rfl, by simp, h, Moves.refl _ _ _ _ _⟩
  have HSRC : Hid (∀ i c' a' bs' pend' v' wr, Wrote b R s bs pend cs v w n ⟨xb, xo, none⟩ i c' a' bs' pend' v' wr → ∀ k, ∀ j u, (cs.drop i)[j]? = some u → ∃ y, a' = some y ∧ (wr.drewN k).cell? (y.add j) = some u) := by
    intro i c' a' bs' pend' v' wr hw k j u hj
    rw [List.getElem?_drop] at hj
    have hij : i + j < cs.length := (List.getElem?_eq_some_iff.1 hj).1
    have hc := hsrc _ _ hj
    have hlt := World.block_lt_of_cell? w _ hc
    refine ⟨_, hw.addr (by omega), ?_⟩
    rw [Lib.addr_add, Lib.addr_add, World.cell?_drewN]
    have : xo + i + j = xo + (i + j) := by omega
    rw [this]
    exact (World.cell?_of_block (hw.moves.block xb hlt hcold)).trans hc
  clear hsrc h
  go_enter Tryd.func18, Tryd.ntmps18
  go_wp2
  go_loopw [1, 4] (fun t1 t4 wr => ∃ (i c' : Nat) (a' : Option Addr) (bs' pend' : List Value) (v' : Value), t1 = .slice a' (n - i) c' ∧ t4 = .int .i64 i ∧ Hid (Wrote b R s bs pend cs v w n ⟨xb, xo, none⟩ i c' a' bs' pend' v' wr))
    (fun t1 _ wr => match t1 with | .slice _ m _ => 2 * m + (match wr.cell? ⟨s, 2, none⟩ with | some (.int _ p) => if p = 0 then 0 else 1 | _ => 0) | _ => 0)
  case atStart => exact ⟨0, c, _, bs, pend, v, rfl, rfl, H0⟩
  case round =>
    clear H0
    obtain ⟨i, c', a', bs', pend', v', rfl, rfl, HW⟩ := hrel
    have hS := HW.out.sink
    have c0 := hS.c0
    have c1 := hS.c1
    have c2 := hS.c2
    have hfit := hS.fit
    have hle := HW.out.le
    have hcap := HW.out.cap
    have hcapm := HW.out.capm
    have hsum := HW.out.sum
    have hlsum : bs'.length + pend'.length = bs.length + pend.length + i := by
      have := congrArg List.length hsum
      simp at this; omega
    have HSUM : Hid (bs' ++ pend' = bs ++ pend ++ cs.take i) := hsum
    clear hsum hS
    obtain ⟨m, hm⟩ : ∃ m, n - i = m := ⟨_, rfl⟩
    have hmn : n = i + m := by omega
    rw [hm] at hcap
    rw [hm]
    by_cases hroom : m ≤ 16384 - pend'.length
    · -- THE LOOP ENDS
      have hroom' : (m : Int) ≤ 16384 - (pend'.length : Int) := by omega
      go_wp2_with (go_at_call 26; refine (avail_any s R pend'.length _ c1 c2 hfit).mono ?_)
      rintro e W ⟨rfl, k, hW⟩
      have hSW : Sink b R s bs' pend' v' W := by rw [hW]; exact HW.out.sink.drewN k
      have hMW : Hid (Moves b R s v v' w W) := by rw [hW]; exact HW.out.moves.drewN k
      have hsrc : ∀ j u, (cs.drop i)[j]? = some u → ∃ y, a' = some y ∧ W.cell? (y.add j) = some u := by rw [hW]; exact HSRC.out _ _ _ _ _ _ _ HW.out k
      have d0 := hSW.c0
      have d1 := hSW.c1
      have d2 := hSW.c2
      obtain ⟨W3, hcp, r0, r1, r2, r3, hfin⟩ := hSW.copy_run a' m c' m (by rw [List.length_drop]; omega) (Nat.min_eq_left hroom).symm hsrc (fun u hu => h1 u (List.mem_of_mem_drop hu))
      have HFIN : Hid (∀ q : Nat, q = pend'.length + m → Sink b R s bs' (pend' ++ (cs.drop i).take m) v' (W3.setCell ⟨s, 2, none⟩ (.int .i64 q)) ∧ Moves b R s v' v' W (W3.setCell ⟨s, 2, none⟩ (.int .i64 q))) := hfin
      clear hfin hSW hsrc c0 c1 c2 hW
      have HEND : Hid (∀ q : Nat, q = pend'.length + m → Done b R s (bs ++ pend ++ cs) v w (W3.setCell ⟨s, 2, none⟩ (.int .i64 q))) := by
        intro q hq
        obtain ⟨s1, s2⟩ := HFIN.out q hq
        refine ⟨bs', _, v', ?_, s1, hMW.out.trans s2⟩
        have ht : (cs.drop i).take m = cs.drop i := List.take_of_length_le (by rw [List.length_drop]; omega)
        rw [ht, ← List.append_assoc, HSUM.out, List.append_assoc, List.take_append_drop]
      clear HFIN HSRC HW
      rcases Nat.lt_or_ge pend'.length 16384 with hlt | hge
      · have hlt' : (pend'.length : Int) < 16384 := by omega
        have hp0 : (0 : Int) ≤ (pend'.length : Int) := by omega
        have hp1 : (pend'.length : Int) ≤ 16384 := by omega
        rw [if_neg (by omega)] at hcp
        have hne : ¬ 16384 = pend'.length := by omega
        go_wp2
        go_region_held3 (fun w' => w'.cell? ⟨s, 0, none⟩ = some .nilIface ∧ w'.cell? ⟨s, 1, none⟩ = some (.slice (some ⟨R, 0, none⟩) 16384 16384) ∧ w'.cell? ⟨s, 2, none⟩ = some (.int .i64 (pend'.length : Nat))) (go_keep) (fail)
        go_wp2
        go_ret2
        exact ⟨ret_pair (by omega), end_cast (T := Done b R s (bs ++ pend ++ cs) v w) HEND.out⟩
      · have hpl : pend'.length = 16384 := by omega
        obtain rfl : m = 0 := by omega
        have HPL : Hid (pend'.length = 16384) := hpl
        rw [hpl] at d2 hcp r2
        simp only [if_pos] at hcp
        clear hpl
        have HE : Hid (Done b R s (bs ++ pend ++ cs) v w (W3.setCell ⟨s, 2, none⟩ (.int .i64 16384))) := HEND.out 16384 (by have := HPL.out; omega)
        clear HEND
        go_wp2
        go_region_held3 (fun w' => w'.cell? ⟨s, 0, none⟩ = some .nilIface ∧ w'.cell? ⟨s, 1, none⟩ = some (.slice (some ⟨R, 0, none⟩) 16384 16384) ∧ w'.cell? ⟨s, 2, none⟩ = some (.int .i64 16384)) (go_keep) (fail)
        go_wp2
        go_ret2
        exact ⟨ret_pair (by omega), HE.out⟩
    · -- THE LOOP GOES ON
      have hroom' : 16384 - (pend'.length : Int) < (m : Int) := by omega
      have ha' : a' = some ⟨xb, xo + i, none⟩ := by rw [HW.out.addr (by omega), Lib.addr_add]
      subst ha'
      by_cases hz : pend'.length = 0
      · -- nothing waits: straight to the buffer
        have hp0 : pend' = [] := List.eq_nil_of_length_eq_zero hz
        subst hp0
        have hm1 : 1 ≤ m := by simp at hroom; omega
        have hm2 : (1 : Int) ≤ (m : Int) := by omega
        go_wp2_with (go_at_call 26; refine (avail_any s R 0 _ c1 c2 (Nat.zero_le _)).mono ?_)
        rintro e W ⟨rfl, k, hW⟩
        have hSW : Sink b R s bs' [] v' W := by rw [hW]; exact HW.out.sink.drewN k
        have hMW : Hid (Moves b R s v v' w W) := by rw [hW]; exact HW.out.moves.drewN k
        have hsrc : ∀ j u, (cs.drop i)[j]? = some u → W.cell? ((⟨xb, xo + i, none⟩ : Addr).add j) = some u := by
          intro j u hj
          obtain ⟨y, e, hy⟩ := HSRC.out _ _ _ _ _ _ _ HW.out k j u hj
          cases e; rw [hW]; exact hy
        have d0 := hSW.c0
        have d1 := hSW.c1
        have d2 := hSW.c2
        have d3 := hSW.c3
        have hmt : ∀ w : World, (method 223 39 (.pointer (some ⟨b, 0, none⟩)) "Write").run Tryd.prog w = .ok (65, .pointer (some ⟨b, 0, none⟩)) w := fun _ => by kernel_rfl
        have HSW : Hid (Sink b R s bs' [] v' W) := hSW
        have HC : Hid (∀ W', Calls Tryd.prog 65 #[.pointer (some ⟨b, 0, none⟩), .slice (some ⟨xb, xo + i, none⟩) m c'] W W' → Calls Tryd.prog 65 #[.pointer (some ⟨b, 0, none⟩), .slice (some ⟨xb, xo + i, none⟩) m c'] W W') := fun _ h => h
        have hbw := bufWrite b bs' (cs.drop i) v' ⟨xb, xo + i, none⟩ m c' W hSW.buf hSW.one (by rw [List.length_drop]; omega) hm1 hcold.1 hsrc (fun u hu => h1 u (List.mem_of_mem_drop hu)) (by simp at hlsum; omega)
        clear hSW hsrc c0 c1 c2 hW HC HSRC
        go_wp2_with (first
          | (go_at_call 27; refine (buffered_any s 0 _ d2).mono ?_; rintro e w' ⟨rfl, rfl⟩)
          | (go_at_call 65; refine hbw.mono ?_; rintro e W2 ⟨rfl, v2, hB, hSh⟩; obtain ⟨r0, r1, r2, r3, rf⟩ := str_shift HSW.out hSh; clear hbw d0 d1 d2 d3))
        obtain ⟨q1, q2⟩ := direct HSW.out hB hSh (fun u hu => h1 u (List.mem_of_mem_drop hu))
        refine ⟨⟨n, c' - m, _, _, [], v2, by rw [Nat.sub_self], by rw [hmn, Int.natCast_add], ⟨Nat.le_refl _, by omega, by omega, fun h => absurd h (by omega), ?_, q1, hMW.out.trans q2⟩⟩, ?_⟩
        · have hsum := HSUM.out
          simp only [List.append_nil] at hsum
          rw [List.append_nil, hsum, List.append_assoc, List.take_append_drop, List.take_of_length_le (by omega)]
        · have e1 := q1.c2
          have e2 := HW.out.sink.c2
          rw [e1, e2]
          simp; omega
      · -- fill the row, flush it
        have hq : 16384 - pend'.length = Nat.min m (16384 - pend'.length) := (Nat.min_eq_right (by omega)).symm
        obtain ⟨q, hqe⟩ : ∃ q, 16384 - pend'.length = q := ⟨_, rfl⟩
        have hq1 : q < m := by omega
        have hq2 : pend'.length + q = 16384 := by omega
        have hz' : ¬ (pend'.length : Int) = 0 := by omega
        go_wp2_with (go_at_call 26; refine (avail_any s R pend'.length _ c1 c2 hfit).mono ?_)
        rintro e W ⟨rfl, k, hW⟩
        have hSW : Sink b R s bs' pend' v' W := by rw [hW]; exact HW.out.sink.drewN k
        have hMW : Hid (Moves b R s v v' w W) := by rw [hW]; exact HW.out.moves.drewN k
        have hsrc : ∀ j u, (cs.drop i)[j]? = some u → ∃ y, (some ⟨xb, xo + i, none⟩ : Option Addr) = some y ∧ W.cell? (y.add j) = some u := by rw [hW]; exact HSRC.out _ _ _ _ _ _ _ HW.out k
        have d0 := hSW.c0
        have d1 := hSW.c1
        have d2 := hSW.c2
        obtain ⟨W3, hcp, r0, r1, r2, r3, hfin⟩ := hSW.copy_run (some ⟨xb, xo + i, none⟩) m c' q (by rw [List.length_drop]; omega) (by rw [← hqe]; exact hq) hsrc (fun u hu => h1 u (List.mem_of_mem_drop hu))
        obtain ⟨f1, f2⟩ := hfin 16384 hq2.symm
        have e16 : ((16384 : Nat) : Int) = 16384 := rfl
        rw [e16] at f1 f2
        clear e16
        have hfl := flush_any b R s bs' (pend' ++ (cs.drop i).take q) v' _ f1 (by
          rw [List.length_append, List.length_take, List.length_drop]; omega)
        have HEND : Hid (∀ (e : Ending) (W5 : World), (e = .returned .nilIface ∧ ∃ v2, Sink b R s (bs' ++ (pend' ++ (cs.drop i).take q)) [] v2 W5 ∧ Moves b R s v' v2 (W3.setCell ⟨s, 2, none⟩ (.int .i64 16384)) W5) →
            e = .returned .nilIface ∧ Hid (W5.cell? ⟨s, 2, none⟩ = some (.int .i64 0) ∧ ∃ v2, Wrote b R s bs pend cs v w n ⟨xb, xo, none⟩ (i + q) (c' - q) (some ⟨xb, xo + i + q, none⟩) (bs' ++ (pend' ++ (cs.drop i).take q)) [] v2 W5)) := by
          rintro e W5 ⟨rfl, v2, g1, g2⟩
          refine ⟨rfl, g1.c2, v2, by omega, by omega, by omega, fun _ => by rw [Lib.addr_add, Nat.add_assoc], ?_, g1, (hMW.out.trans f2).trans g2⟩
          rw [List.append_nil, ← List.append_assoc, HSUM.out, List.append_assoc]
          congr 1
          rw [List.take_add]
        clear hfin hSW hsrc c0 c1 f1 f2 hW HSRC hq
        rcases Nat.lt_or_ge pend'.length 16384 with hlt | hge
        · have hlt' : (pend'.length : Int) < 16384 := by omega
          have hp0 : (0 : Int) ≤ (pend'.length : Int) := by omega
          have hp1 : (pend'.length : Int) ≤ 16384 := by omega
          rw [if_neg (by omega), hqe] at hcp
          have hne : ¬ 16384 = pend'.length := by omega
          have hsumq : (pend'.length : Int) + (q : Int) = 16384 := by omega
          go_wp2_with (go_at_call 27; refine (buffered_any s pend'.length _ d2).mono ?_; rintro e w' ⟨rfl, rfl⟩)
          go_region_held3 (fun w' => w'.cell? ⟨s, 0, none⟩ = some .nilIface ∧ w'.cell? ⟨s, 1, none⟩ = some (.slice (some ⟨R, 0, none⟩) 16384 16384) ∧ w'.cell? ⟨s, 2, none⟩ = some (.int .i64 (pend'.length : Nat))) (go_keep) (fail)
          go_wp2_with (go_at_call 22; refine hfl.mono ?_; intro e W5 hW5; obtain ⟨rfl, HW5⟩ := HEND.out e W5 hW5; clear hW5)
          obtain ⟨e1, v2, hWr⟩ := HW5.out
          refine ⟨⟨i + q, c' - q, _, _, [], v2, by rw [show n - (i + q) = m - q by omega], by rw [Int.natCast_add], hWr⟩, ?_⟩
          rw [e1, HW.out.sink.c2]
          simp; omega
        · have hpl : pend'.length = 16384 := by omega
          have hq0 : q = 0 := by omega
          subst hq0
          have HPL : Hid (pend'.length = 16384) := hpl
          rw [hpl] at d2 hcp r2
          simp only [if_pos, Nat.sub_self] at hcp
          clear hpl hqe hq2
          have hcm0 : ¬ c' = 0 := by omega
          go_wp2_with (go_at_call 27; refine (buffered_any s 16384 _ d2).mono ?_; rintro e w' ⟨rfl, rfl⟩)
          go_region_held3 (fun w' => w'.cell? ⟨s, 0, none⟩ = some .nilIface ∧ w'.cell? ⟨s, 1, none⟩ = some (.slice (some ⟨R, 0, none⟩) 16384 16384) ∧ w'.cell? ⟨s, 2, none⟩ = some (.int .i64 16384)) (go_keep) (fail)
          go_wp2_with (go_at_call 22; refine hfl.mono ?_; intro e W5 hW5; obtain ⟨rfl, HW5⟩ := HEND.out e W5 hW5; clear hW5)
          obtain ⟨e1, v2, hWr⟩ := HW5.out
          refine ⟨⟨i + 0, c' - 0, _, _, [], v2, by rw [show n - (i + 0) = m by omega]; rfl, by simp, hWr⟩, ?_⟩
          rw [e1, HW.out.sink.c2]
          simp
          rw [if_neg (fun e => hz (by rw [e]; rfl))]; decide
end Go.Proofs.Qxb6614495aDoor
