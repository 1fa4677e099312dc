/-
  The walk of FnWriterBulkAgreesWithReplyBulk.
-/
import Derived.Test.Qxb6614495aDoorBSteps
import Derived.Test.Qxb6614495aDoorMisc
import Derived.BigQuiet
namespace Go.Proofs.Qxb6614495aDoor
open Go.RowKit Go.Shelf

set_option maxHeartbeats 16000000 in
set_option maxRecDepth 100000 in
theorem lawB_any (v : Value) (L : List (List Int)) (w : World) (h : Mat w v L) (ht : Lib.TabIs Tryd.prog w "internal/strconv.uint64pow10" .u64 Lib.pow10Tab) :
    Calls Tryd.prog 3 #[v] w fun e w' => e = .returned (.bool true) ∧ Kept w w' := by
  have HM : Hid (Mat w v L) := h
  have HT : Hid (Lib.TabIs Tryd.prog w "internal/strconv.uint64pow10" .u64 Lib.pow10Tab) := ht
  clear ht
  obtain ⟨a, n, c, rfl, hl, hnc, hcm, hM⟩ := h
  unfold maxLen at hcm
  by_cases hsm : small L = true
  case neg =>
    have e : small L = false := by simpa using hsm
    clear hM hsm
    go_enter Tryd.func3, Tryd.ntmps3
    go_wp2_with (go_at_call 5; refine (zz5 _ L _ HM.out).mono ?_; rw [e]; rintro e w' ⟨rfl, rfl⟩)
    go_ret
    exact ⟨rfl, Kept.refl _⟩
  have hs : L.length + sumLen L ≤ 1048576 := of_decide_eq_true hsm
  by_cases hbig : 65536 < n
  · clear hM
    go_enter Tryd.func3, Tryd.ntmps3
    go_wp2_with (go_at_call 5; refine (zz5 _ L _ HM.out).mono ?_; rw [hsm]; rintro e w' ⟨rfl, rfl⟩)
    go_ret
    exact ⟨rfl, Kept.refl _⟩
  go_enter Tryd.func3, Tryd.ntmps3
  go_wp2_with (go_at_call 5; refine (zz5 _ L _ HM.out).mono ?_; rw [hsm]; rintro e w' ⟨rfl, he⟩; subst he)
  go_loop [3, 4] (fun z i => ∃ k : Nat, k ≤ n ∧ i = .int .i64 k ∧ z = .int .i64 ((24 * k + sumLen (L.take k) : Nat) : Int) ∧ 24 * k + sumLen (L.take k) ≤ 1048576) (fun _ i => n - (intOf i).toNat)
  case atStart => exact ⟨0, Nat.zero_le _, rfl, by simp [sumLen], by simp [sumLen]⟩
  case round =>
    obtain ⟨k, hk, rfl, rfl, hz⟩ := hrel
    by_cases hlt : k < n
    · obtain ⟨l, hlk⟩ : ∃ l, L[k]? = some l := ⟨_, List.getElem?_eq_getElem (by omega)⟩
      obtain ⟨b, o, u, rfl, hcell, a', n', c', rfl, hl', hnc', hcm', -, -⟩ := hM k l hlk
      have hsn := sumLen_take_succ L k l hlk
      have hle := sumLen_take_le L (k + 1)
      unfold maxLen at hcm'
      rw [hl'] at hsn
      have HSN : Hid (sumLen (L.take (k + 1)) = sumLen (L.take k) + n') := hsn
      generalize hq : sumLen (L.take k) = q at *
      have hn2 : n' ≤ 1048576 := by omega
      by_cases hov : 24 * k + q + (24 + n') ≤ 1048576
      · clear hsn hle hM
        go_wp2
        go_round
        case rel => exact ⟨k + 1, by omega, by go_num, by rw [HSN.out]; go_num, by rw [HSN.out]; omega⟩
        case measure => simp [intOf]; omega
      · have hov2 : (1048576 : Int) < 24 * (k : Int) + q + (24 + n') := by omega
        clear hsn hle hM hov
        go_wp2
        all_goals (go_ret; exact ⟨rfl, Kept.refl _⟩)
    · obtain rfl : n = k := by omega
      have hTL : (tot L).length ≤ 1048576 := by
        have h1 := tot_len L (by omega)
        rw [← hl, sumLen_all] at hz
        omega
      have HTL : Hid ((tot L).length ≤ 1048576) := hTL
      clear hM hz hk hlt hTL
      go_wp2_with (first
        | (go_at_call 6; refine (clone_any _ L _ HM.out hs).mono ?_; rintro e w1 ⟨v1, rfl, hM1, hb1⟩; have HM1 : Hid (Mat w1 v1 L) := hM1; have HB1 : Hid (Kept w' w1) := Kept.of hb1; have HT1 : Hid (Lib.TabIs Tryd.prog w1 "internal/strconv.uint64pow10" .u64 Lib.pow10Tab) := HB1.out.tab HT.out; obtain ⟨a1, n1, c1, rfl, hl1, hnc1, hcm1, hMM⟩ := hM1; obtain rfl : n = n1 := hl.symm.trans hl1; unfold maxLen at hcm1)
        | (go_at_call 7; refine (newSink_any _).mono ?_; rintro e w' ⟨rfl, rfl⟩)
        | (go_at_call 8; refine (sinkWriter_any _ _ _ _ (sinkW_4 w1)).mono ?_; rintro e w' ⟨rfl, rfl⟩))
      have HMM : Hid (∀ i l, L[i]? = some l → ∃ b o u, a1 = some ⟨b, o, none⟩ ∧ w1.cell? ⟨b, o + i, none⟩ = some u ∧ BytesAt w1 u l) := hMM
      clear hMM hb1 HM HT
      go_loopw [7] (fun i wr => ∃ k : Nat, k ≤ n ∧ i = .int .i64 k ∧ Hid (Wrt w1 (cells (tot (L.take k))) wr)) (fun i _ => n - (intOf i).toNat)
      case atStart => exact ⟨0, Nat.zero_le _, rfl, Wrt.start w1⟩
      case round =>
        obtain ⟨k, hk, rfl, HW⟩ := hrel
        by_cases hlt : k < n
        · obtain ⟨l, hlk⟩ : ∃ l, L[k]? = some l := ⟨_, List.getElem?_eq_getElem (by omega)⟩
          obtain ⟨b, o, u, rfl, hcell, hB⟩ := HMM.out k l hlk
          have hll := sumLen_take_succ L k l hlk
          have hll2 := sumLen_take_le L (k + 1)
          have hcell2 : wr.cell? ⟨b, o + k, none⟩ = some u := (World.cell?_of_block (HW.out.kept.block b (World.block_lt_of_cell? w1 _ hcell))).trans hcell
          obtain ⟨a', n', c', rfl, q1, q2, q3, q4, q5⟩ := hB
          have hadd := wbulk_step w1 L k l a' n' c' wr HW.out hlk ⟨a', n', c', rfl, q1, q2, q3, q4, q5⟩ (by omega) HTL.out HT1.out
          clear hcell hlk hll hll2 q1 q2 q3 q4 q5 HW
          go_wp2_with (go_at_call 9; refine hadd.mono ?_; rintro e w2 ⟨rfl, HW2⟩)
          go_roundw
          case rel => exact ⟨k + 1, by omega, by go_num, HW2⟩
          case measure => simp [intOf]; omega
        · obtain rfl : n = k := by omega
          have hsb := sinkBytes_m w1 (tot L) wr HTL.out (tot_range fun l hl => by
            obtain ⟨i, hi⟩ := List.getElem?_of_mem hl
            obtain ⟨_, _, u, _, _, hB⟩ := HMM.out i l hi
            exact hB.range) (by have := HW.out; rw [← hl1, List.take_length] at this; exact this)
          clear HW
          go_wp2_with (go_at_call 10; refine hsb.mono ?_; rintro e w2 ⟨v2, rfl, hBA, HK2⟩; have HBA : Hid (BytesAt w2 v2 (tot L)) := hBA; have HKK : Hid (Kept w1 w2) := HK2; clear HK2; obtain ⟨a2, n2, c2, rfl, hl2, hnc2, hcm2, -, -⟩ := hBA; unfold maxLen at hcm2)
          have HL2 : Hid ((tot L).length = n2) := hl2
          have hn2b : n2 ≤ 1048576 := by have := HTL.out; omega
          have HT2 : Hid (Lib.TabIs Tryd.prog w2 "internal/strconv.uint64pow10" .u64 Lib.pow10Tab) := HKK.out.tab HT1.out
          have HMM2 : Hid (∀ i l, L[i]? = some l → ∃ b o u, a1 = some ⟨b, o, none⟩ ∧ w2.cell? ⟨b, o + i, none⟩ = some u ∧ BytesAt w2 u l) := fun i l hi => by
            obtain ⟨b, o, u, q1, q2, q3⟩ := HMM.out i l hi
            exact ⟨b, o, u, q1, (World.cell?_of_block (HKK.out.block b (World.block_lt_of_cell? w1 _ q2))).trans q2, q3.same HKK.out.block⟩
          have HK02 : Hid (Kept w' w2) := HB1.out.trans HKK.out
          clear hl2 HMM HKK HT1 HB1 HM1 hsb hk hlt
          go_loopw [10] (fun i wr => ∃ k : Nat, k ≤ n ∧ i = .int .i64 k ∧ Hid (Filled w2 w2.heap.size (cells (tot (L.take k))) (tot (L.take k)).length k wr)) (fun i _ => n - (intOf i).toNat)
          case atStart => exact ⟨0, Nat.zero_le _, rfl, Filled.start w2⟩
          case round =>
            obtain ⟨k, hk, rfl, HF⟩ := hrel
            by_cases hlt : k < n
            · obtain ⟨l, hlk⟩ : ∃ l, L[k]? = some l := ⟨_, List.getElem?_eq_getElem (by omega)⟩
              obtain ⟨b, o, u, rfl, hcell, hB⟩ := HMM2.out k l hlk
              have hll := sumLen_take_succ L k l hlk
              have hll2 := sumLen_take_le L (k + 1)
              have hcell2 : wr.cell? ⟨b, o + k, none⟩ = some u := (World.cell?_of_block (HF.out.bel.block b (World.block_lt_of_cell? w2 _ hcell))).trans hcell
              obtain ⟨a', n', c', rfl, q1, q2, q3, q4, q5⟩ := hB
              have hadd := rbulk_step w2 w2.heap.size L k l a' n' c' wr HF.out hlk ⟨a', n', c', rfl, q1, q2, q3, q4, q5⟩ (by omega) (by omega) HTL.out HT2.out
              clear hcell hlk hll hll2 q1 q2 q3 q4 q5 HF
              go_wp2_with (go_at_call 11; refine hadd.mono ?_; rintro e w3 ⟨rfl, HF3⟩)
              go_roundw
              case rel => exact ⟨k + 1, by omega, by go_num, HF3⟩
              case measure => simp [intOf]; omega
            · obtain rfl : n = k := by omega
              have hFF : Filled w2 w2.heap.size (cells (tot L)) (tot L).length n wr := by have := HF.out; rw [← hl1, List.take_length] at this; rw [← hl1]; exact this
              have hrp := reply_filled w2 w2.heap.size _ _ _ wr hFF (by have := HTL.out; omega) (by omega)
              have hsb := fun w3 hW => sinkBytes_m wr (tot L) w3 HTL.out (tot_range fun l hl => by
                obtain ⟨i, hi⟩ := List.getElem?_of_mem hl
                obtain ⟨_, _, u, _, _, hB⟩ := HMM2.out i l hi
                exact hB.range) hW
              have HK3 : Hid (Kept w2 wr) := Kept.of hFF.bel
              clear HF hFF
              go_wp2_with (first
                | (go_at_call 7; refine (newSink_any _).mono ?_; rintro e w' ⟨rfl, rfl⟩)
                | (go_at_call 8; refine (sinkWriter_any _ _ _ _ (sinkW_4 wr)).mono ?_; rintro e w' ⟨rfl, rfl⟩)
                | (go_at_call 12; refine hrp.mono ?_; rintro e w3 ⟨rfl, hD⟩)
                | (go_at_call 10; refine (hsb w3 hD).mono ?_; rintro e w4 ⟨v4, rfl, hBA4, hK4⟩; have HK24 : Hid (Kept w2 w4) := HK3.out.trans hK4; have HBA4 : Hid (BytesAt w4 v4 (tot L)) := hBA4; clear hK4; obtain ⟨a4, n4, c4, rfl, hl4, hnc4, hcm4, -, -⟩ := hBA4))
              obtain rfl : n2 = n4 := HL2.out.symm.trans hl4
              have HBA2 : Hid (BytesAt w4 (Value.slice a2 n2 c2) (tot L)) := HBA.out.same HK24.out.block
              unfold maxLen at hcm4
              clear hrp hsb hD hl4 HK3 HBA hk hlt
              go_loopw [14, 15] (fun z i W => ∃ k p : Nat, k ≤ n ∧ i = .int .i64 k ∧ z = .int .i64 p ∧ Hid (p = (tot (L.take k)).length) ∧ Hid (∃ q, W = w4.drewN q)) (fun _ i _ => n - (intOf i).toNat)
              case atStart => exact ⟨0, 0, Nat.zero_le _, rfl, rfl, rfl, ⟨0, rfl⟩⟩
              case round =>
                obtain ⟨k, p, hk, rfl, rfl, HP, HQ⟩ := hrel
                by_cases hlt : k < n
                · obtain ⟨l, hlk⟩ : ∃ l, L[k]? = some l := ⟨_, List.getElem?_eq_getElem (by omega)⟩
                  obtain ⟨b, o, u, rfl, hcell, hB⟩ := HMM2.out k l hlk
                  have hll := sumLen_take_succ L k l hlk
                  have hll2 := sumLen_take_le L (k + 1)
                  have hc0 : w4.cell? ⟨b, o + k, none⟩ = some u := (World.cell?_of_block (HK24.out.block b (World.block_lt_of_cell? w2 _ hcell))).trans hcell
                  have hcell2 : wr.cell? ⟨b, o + k, none⟩ = some u := by obtain ⟨q, hq⟩ := HQ.out; rw [hq]; exact hc0
                  obtain ⟨a', n', c', rfl, q1, q2, q3, q4, q5⟩ := hB
                  have hn' : n' ≤ 1048576 := by omega
                  have hpe : p + (n' + 5 + Lib.nDigits n') = (tot (L.take (k + 1))).length := by rw [tot_succ L k l hlk, List.length_append, enc_length, q1, HP.out]
                  have hpb := tot_take_len L (k + 1)
                  have hpb2 : p + (n' + 5 + Lib.nDigits n') ≤ 1048576 := by have := HTL.out; omega
                  have HPE : Hid (p + (n' + 5 + Lib.nDigits n') = (tot (L.take (k + 1))).length) := hpe
                  clear hcell hlk hll hll2 q1 q2 q3 q4 q5 hpe hpb HP hc0
                  have hdg : ∀ w5 : World, Calls Tryd.prog 13 #[.int .i64 n'] w5 fun e w6 => e = .returned (.int .i64 (Lib.nDigits n')) ∧ ∃ m, w6 = w5.drewN m := fun w5 => (digits_any n' hn' w5).mono fun e w6 ⟨h1, h2⟩ => ⟨h1, 0, h2⟩
                  obtain ⟨d, hd⟩ : ∃ d, Lib.nDigits n' = d := ⟨_, rfl⟩
                  rw [hd] at hdg HPE hpb2
                  clear hd
                  go_wp2
                  go_quiet (first | (go_at_call 13; exact Calls.quiet_of (hdg _)))
                  clear hdg
                  go_wp2
                  go_roundw
                  case rel => exact ⟨k + 1, p + (n' + 5 + d), by omega, by go_num, by go_num, HPE.out, (by obtain ⟨q, hq⟩ := HQ.out; exact ⟨q + nq, by rw [hq, World.drewN_drewN]⟩ : ∃ q, wr.drewN nq = w4.drewN q)⟩
                  case measure => simp [intOf]; omega
                · obtain rfl : n = k := by omega
                  obtain rfl : n2 = p := by have := HP.out; rw [← hl1, List.take_length] at this; exact HL2.out.symm.trans this.symm
                  have hsame := same_any (.slice a2 n2 c2) (.slice a4 n2 c4) (tot L) wr (by obtain ⟨q, hq⟩ := HQ.out; rw [hq]; exact HBA2.out.same fun _ _ => rfl) (by obtain ⟨q, hq⟩ := HQ.out; rw [hq]; exact HBA4.out.same fun _ _ => rfl)
                  clear HP
                  go_wp2_with (go_at_call 14; refine hsame.mono ?_; rintro e w5 ⟨rfl, k5, rfl⟩)
                  go_ret
                  obtain ⟨q, hq⟩ := HQ.out
                  exact ⟨rfl, by rw [hq]; exact ((HK02.out.trans HK24.out).drewN q).drewN k5⟩
end Go.Proofs.Qxb6614495aDoor
