/-
  (*bufio.Writer).WriteString.
-/
import Derived.Test.Qxb6614495aDoorStr
namespace Go.Proofs.Qxb6614495aDoor
open Go.RowKit
attribute [local go_sem ↓] Go.wp_at_zero Go.wp_at_succ

/-- What WriteString's loop keeps: i bytes have been taken, S' is left. -/
structure WroteS (b R s : Nat) (bs pend cs : List Value) (v : Value) (w : World) (n i : Nat) (S' : ByteArray) (bs' pend' : List Value) (v' : Value) (wr : World) : Prop where
  le : i + S'.size = n
  left : Lib.byteCells S'.data.toList = cs.drop i
  sum : bs' ++ pend' = bs ++ pend ++ cs.take i
  sink : Sink b R s bs' pend' v' wr
  moves : Moves b R s v v' w wr

theorem extract_list (S : ByteArray) (q : Nat) : (S.extract q S.size).data.toList = S.data.toList.drop q := by
  have h : S.size = S.data.toList.length := rfl
  rw [ByteArray.data_extract, Array.toList_extract, h]
  exact List.take_of_length_le (by rw [List.length_drop]; exact Nat.le_refl _)
theorem extract_size (S : ByteArray) (q : Nat) : (S.extract q S.size).size = S.size - q := by
  have h := congrArg List.length (extract_list S q)
  rw [List.length_drop] at h
  exact h

set_option maxHeartbeats 4000000 in
set_option maxRecDepth 100000 in
theorem wstr_any (b R s : Nat) (bs pend : List Value) (v : Value) (w : World) (h : Sink b R s bs pend v w) (S : ByteArray) (hS : S.size ≤ 16384) (hS1 : 1 ≤ S.size) (hlim : bs.length + pend.length ≤ 70368744177664) :
    Calls Tryd.prog 21 #[.pointer (some ⟨s, 0, none⟩), .string S] w fun e w' => e = .returned (.tuple #[.int .i64 S.size, .nilIface]) ∧ Done b R s (bs ++ pend ++ Lib.byteCells S.data.toList) v w w' := by
  have H0 : Hid (WroteS b R s bs pend (Lib.byteCells S.data.toList) v w S.size 0 S bs pend v w) := ⟨by omega, rfl, by simp, h, Moves.refl _ _ _ _ _⟩
  clear h
  go_enter Tryd.func21, Tryd.ntmps21
  go_wp2
  go_loopw [1, 6, 7, 8] (fun t1 t6 t7 t8 wr => ∃ (i : Nat) (S' : ByteArray) (bs' pend' : List Value) (v' : Value), t1 = .string S' ∧ t6 = .nilIface ∧ t7 = .bool true ∧ t8 = .int .i64 i ∧ Hid (WroteS b R s bs pend (Lib.byteCells S.data.toList) v w S.size i S' bs' pend' v' wr))
    (fun t1 _ _ _ wr => match t1 with | .string m => 2 * m.size + (match wr.cell? ⟨s, 2, none⟩ with | some (.int _ p) => if p = 0 then 0 else 1 | _ => 0) | _ => 0)
  case atStart => exact ⟨0, S, bs, pend, v, rfl, rfl, rfl, rfl, H0⟩
  case round =>
    clear H0
    obtain ⟨i, S', bs', pend', v', rfl, rfl, rfl, rfl, HW⟩ := hrel
    have hS := HW.out.sink
    have c0 := hS.c0
    have c1 := hS.c1
    have c2 := hS.c2
    have hfit := hS.fit
    have hle := HW.out.le
    clear hS
    by_cases hroom : S'.size ≤ 16384 - pend'.length
    · have hroom' : (S'.size : Int) ≤ 16384 - (pend'.length : Int) := by omega
      go_wp2_with (go_at_call 26; refine (avail_any s R pend'.length _ c1 c2 hfit).mono ?_)
      rintro e W ⟨rfl, k, hW⟩
      have hSW : Sink b R s bs' pend' v' W := by rw [hW]; exact HW.out.sink.drewN k
      have hMW : Hid (Moves b R s v v' w W) := by rw [hW]; exact HW.out.moves.drewN k
      have d0 := hSW.c0
      have d1 := hSW.c1
      have d2 := hSW.c2
      obtain ⟨W3, hcp, r0, r1, r2, r3, hfin⟩ := hSW.copy_str S' S'.size (Nat.min_eq_left hroom)
      have HEND : Hid (∀ q : Nat, q = pend'.length + S'.size → Done b R s (bs ++ pend ++ Lib.byteCells S.data.toList) v w (W3.setCell ⟨s, 2, none⟩ (.int .i64 q))) := by
        intro q hq
        obtain ⟨s1, s2⟩ := hfin q hq
        refine ⟨bs', _, v', ?_, s1, hMW.out.trans s2⟩
        have hbl : (Lib.byteCells S'.data.toList).length = S'.size := by rw [Lib.byteCells_length]; rfl
        rw [List.take_of_length_le (by omega), HW.out.left, ← List.append_assoc, HW.out.sum, List.append_assoc, List.take_append_drop]
      clear hfin hSW c0 c1 c2 hW HW
      rcases Nat.lt_or_ge pend'.length 16384 with hlt | hge
      · have hlt' : (pend'.length : Int) < 16384 := by omega
        have hp0 : (0 : Int) ≤ (pend'.length : Int) := by omega
        have hp1 : (pend'.length : Int) ≤ 16384 := by omega
        rw [if_neg (by omega)] at hcp
        have hne : ¬ 16384 = pend'.length := by omega
        go_wp2
        go_region_held3 (fun w' => w'.cell? ⟨s, 0, none⟩ = some .nilIface ∧ w'.cell? ⟨s, 1, none⟩ = some (.slice (some ⟨R, 0, none⟩) 16384 16384) ∧ w'.cell? ⟨s, 2, none⟩ = some (.int .i64 (pend'.length : Nat))) (go_keep) (fail)
        go_wp2
        go_ret2
        exact ⟨ret_pair (by omega), end_cast (T := Done b R s (bs ++ pend ++ Lib.byteCells S.data.toList) v w) HEND.out⟩
      · have hpl : pend'.length = 16384 := by omega
        have hz : S'.size = 0 := by omega
        have HPL : Hid (pend'.length = 16384) := hpl
        have HE : Hid (Done b R s (bs ++ pend ++ Lib.byteCells S.data.toList) v w (W3.setCell ⟨s, 2, none⟩ (.int .i64 16384))) := HEND.out 16384 (by omega)
        have hin : i = S.size := by omega
        rw [hpl] at d2 hcp r2
        simp only [if_pos, hz] at hcp
        clear hpl HEND
        go_wp2
        go_region_held3 (fun w' => w'.cell? ⟨s, 0, none⟩ = some .nilIface ∧ w'.cell? ⟨s, 1, none⟩ = some (.slice (some ⟨R, 0, none⟩) 16384 16384) ∧ w'.cell? ⟨s, 2, none⟩ = some (.int .i64 16384)) (go_keep) (fail)
        go_wp2
        go_ret2
        exact ⟨ret_pair (by omega), HE.out⟩
    · have hroom' : 16384 - (pend'.length : Int) < (S'.size : Int) := by omega
      have hp0' : ¬ pend'.length = 0 := by omega
      have hp0i : ¬ (pend'.length : Int) = 0 := by omega
      go_wp2_with (go_at_call 26; refine (avail_any s R pend'.length _ c1 c2 hfit).mono ?_)
      rintro e W ⟨rfl, k, hW⟩
      have hSW : Sink b R s bs' pend' v' W := by rw [hW]; exact HW.out.sink.drewN k
      have hMW : Hid (Moves b R s v v' w W) := by rw [hW]; exact HW.out.moves.drewN k
      have d0 := hSW.c0
      have d1 := hSW.c1
      have d2 := hSW.c2
      have hq : Nat.min S'.size (16384 - pend'.length) = 16384 - pend'.length := Nat.min_eq_right (by omega)
      obtain ⟨q, hqe⟩ : ∃ q, 16384 - pend'.length = q := ⟨_, rfl⟩
      have hq1 : q < S'.size := by omega
      have hq2 : pend'.length + q = 16384 := by omega
      obtain ⟨W3, hcp, r0, r1, r2, r3, hfin⟩ := hSW.copy_str S' q (by rw [hq]; exact hqe)
      obtain ⟨f1, f2⟩ := hfin 16384 hq2.symm
      have e16 : ((16384 : Nat) : Int) = 16384 := rfl
      rw [e16] at f1 f2
      have hlsum : bs'.length + pend'.length ≤ bs.length + pend.length + i := by
        have := congrArg List.length HW.out.sum
        simp only [List.length_append, List.length_take] at this; omega
      have hfl := flush_any b R s bs' (pend' ++ (Lib.byteCells S'.data.toList).take q) v' _ f1 (by
        rw [List.length_append, List.length_take]; omega)
      have HEND : Hid (∀ (e : Ending) (W5 : World), (e = .returned .nilIface ∧ ∃ v2, Sink b R s (bs' ++ (pend' ++ (Lib.byteCells S'.data.toList).take q)) [] v2 W5 ∧ Moves b R s v' v2 (W3.setCell ⟨s, 2, none⟩ (.int .i64 16384)) W5) →
          e = .returned .nilIface ∧ Hid (W5.cell? ⟨s, 2, none⟩ = some (.int .i64 0) ∧ ∃ v2, ∀ S2 : ByteArray, S2.data.toList = S'.data.toList.drop q → WroteS b R s bs pend (Lib.byteCells S.data.toList) v w S.size (i + q) S2 (bs' ++ (pend' ++ (Lib.byteCells S'.data.toList).take q)) [] v2 W5)) := by
        rintro e W5 ⟨rfl, v2, g1, g2⟩
        refine ⟨rfl, g1.c2, v2, fun S2 hS2 => ⟨?_, ?_, ?_, g1, (hMW.out.trans f2).trans g2⟩⟩
        · have hl2 : S2.size = S'.size - q := by
            have := congrArg List.length hS2
            rw [List.length_drop] at this
            exact this
          omega
        · have : Lib.byteCells S2.data.toList = (Lib.byteCells S'.data.toList).drop q := by simp only [Lib.byteCells, hS2, List.map_drop]
          rw [this, HW.out.left, List.drop_drop]
        · rw [List.append_nil, ← List.append_assoc, HW.out.sum, HW.out.left, List.append_assoc]
          congr 1
          rw [List.take_add]
      have HC2 : Hid (wr.cell? ⟨s, 2, none⟩ = some (.int .i64 (pend'.length : Nat))) := c2
      clear hfin hSW c0 c1 c2 hW f1 f2 hq e16 HW
      rcases Nat.lt_or_ge pend'.length 16384 with hlt | hge
      · have hlt' : (pend'.length : Int) < 16384 := by omega
        have hp0 : (0 : Int) ≤ (pend'.length : Int) := by omega
        have hp1 : (pend'.length : Int) ≤ 16384 := by omega
        rw [if_neg (by omega), hqe] at hcp
        have hne : ¬ 16384 = pend'.length := by omega
        have hsumq : (pend'.length : Int) + (q : Int) = 16384 := by omega
        go_wp2_with (go_at_call 27; refine (buffered_any s pend'.length _ d2).mono ?_; rintro e w' ⟨rfl, rfl⟩)
        go_region_held3 (fun w' => w'.cell? ⟨s, 0, none⟩ = some .nilIface ∧ w'.cell? ⟨s, 1, none⟩ = some (.slice (some ⟨R, 0, none⟩) 16384 16384) ∧ w'.cell? ⟨s, 2, none⟩ = some (.int .i64 (pend'.length : Nat))) (go_keep) (fail)
        go_wp2_with (go_at_call 22; refine hfl.mono ?_; intro e W5 hW5; obtain ⟨rfl, HW5⟩ := HEND.out e W5 hW5; clear hW5)
        obtain ⟨e1, v2, hWr⟩ := HW5.out
        refine ⟨⟨i + q, _, _, [], v2, rfl, rfl, rfl, by rw [Int.natCast_add], hWr (S'.extract q S'.size) (extract_list S' q)⟩, ?_⟩
        rw [e1, HC2.out]
        simp only [extract_size, if_true]
        rw [if_neg hp0i]; omega
      · have hpl : pend'.length = 16384 := by omega
        have hq0 : q = 0 := by omega
        subst hq0
        have HPL : Hid (pend'.length = 16384) := hpl
        rw [hpl] at d2 hcp r2
        simp only [if_pos, Nat.sub_self] at hcp
        clear hpl hqe hq2
        go_wp2_with (go_at_call 27; refine (buffered_any s 16384 _ d2).mono ?_; rintro e w' ⟨rfl, rfl⟩)
        go_region_held3 (fun w' => w'.cell? ⟨s, 0, none⟩ = some .nilIface ∧ w'.cell? ⟨s, 1, none⟩ = some (.slice (some ⟨R, 0, none⟩) 16384 16384) ∧ w'.cell? ⟨s, 2, none⟩ = some (.int .i64 16384)) (go_keep) (fail)
        go_wp2_with (go_at_call 22; refine hfl.mono ?_; intro e W5 hW5; obtain ⟨rfl, HW5⟩ := HEND.out e W5 hW5; clear hW5)
        obtain ⟨e1, v2, hWr⟩ := HW5.out
        refine ⟨⟨i + 0, S', _, [], v2, rfl, rfl, rfl, by simp, hWr S' rfl⟩, ?_⟩
        rw [e1, HC2.out]
        simp only [if_true]
        rw [if_neg (fun e => hp0' (by omega))]; omega
end Go.Proofs.Qxb6614495aDoor
