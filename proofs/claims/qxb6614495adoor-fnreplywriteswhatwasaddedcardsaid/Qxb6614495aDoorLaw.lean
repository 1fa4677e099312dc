/-
  The walk of FnReplyWritesWhatWasAdded.
-/
import Derived.Test.Qxb6614495aDoorSteps
import Derived.BigQuiet
namespace Go.Proofs.Qxb6614495aDoor
open Go.RowKit Go.Shelf

theorem Mat.drewN {w : World} {v : Value} {L : List (List Int)} (h : Mat w v L) (n : Nat) : Mat (w.drewN n) v L := h.same (fun _ _ => rfl)

theorem flatten_at : ∀ (L : List (List Int)) (i : Nat) (l : List Int) (j : Nat) (x : Int), L[i]? = some l → l[j]? = some x → L.flatten[sumLen (L.take i) + j]? = some x
  | [], i, l, j, x, h, _ => by simp at h
  | a :: L, 0, l, j, x, h, hx => by
    simp only [List.getElem?_cons_zero, Option.some.injEq] at h
    subst h
    have hj := (List.getElem?_eq_some_iff.1 hx).1
    simp only [List.take_zero, sumLen, List.map_nil, List.sum_nil, Nat.zero_add, List.flatten_cons]
    rw [List.getElem?_append_left hj]; exact hx
  | a :: L, i + 1, l, j, x, h, hx => by
    have h' : L[i]? = some l := by simpa using h
    have := flatten_at L i l j x h' hx
    simp only [List.take_succ_cons, sumLen, List.map_cons, List.sum_cons, List.flatten_cons]
    rw [List.getElem?_append_right (by omega), show a.length + ((L.take i).map List.length).sum + j - a.length = sumLen (L.take i) + j from by unfold sumLen; omega]
    exact this

set_option maxHeartbeats 8000000 in
set_option maxRecDepth 100000 in
theorem law_any (v : Value) (L : List (List Int)) (w : World) (h : Mat w v L) :
    Calls Tryd.prog 4 #[v] w fun e w' => e = .returned (.bool true) ∧ Below w.heap.size w w' := by
  have HM : Hid (Mat w v L) := h
  obtain ⟨a, n, c, rfl, hl, hnc, hcm, hM⟩ := h
  unfold maxLen at hcm
  by_cases hsm : small L = true
  case neg =>
    have e : small L = false := by simpa using hsm
    clear hM hsm
    go_enter Tryd.func4, Tryd.ntmps4
    go_wp2_with (go_at_call 15; refine (zz15 _ L _ HM.out).mono ?_; rw [e]; rintro e w' ⟨rfl, rfl⟩)
    go_ret
    exact ⟨rfl, Below.refl _ _⟩
  have hs : L.length + sumLen L ≤ 1048576 := of_decide_eq_true hsm
  by_cases hbig : 65536 < n
  · clear hM
    go_enter Tryd.func4, Tryd.ntmps4
    go_wp2_with (go_at_call 15; refine (zz15 _ L _ HM.out).mono ?_; rw [hsm]; rintro e w' ⟨rfl, rfl⟩)
    go_ret
    exact ⟨rfl, Below.refl _ _⟩
  go_enter Tryd.func4, Tryd.ntmps4
  go_wp2_with (go_at_call 15; refine (zz15 _ L _ HM.out).mono ?_; rw [hsm]; rintro e w' ⟨rfl, he⟩; subst he)
  go_loop [3, 4] (fun z i => ∃ k : Nat, k ≤ n ∧ i = .int .i64 k ∧ z = .int .i64 ((24 * k + sumLen (L.take k) : Nat) : Int) ∧ 24 * k + sumLen (L.take k) ≤ 1048576) (fun _ i => n - (intOf i).toNat)
  case atStart => exact ⟨0, Nat.zero_le _, rfl, by simp [sumLen], by simp [sumLen]⟩
  case round =>
    obtain ⟨k, hk, rfl, rfl, hz⟩ := hrel
    by_cases hlt : k < n
    · obtain ⟨l, hlk⟩ : ∃ l, L[k]? = some l := ⟨_, List.getElem?_eq_getElem (by omega)⟩
      obtain ⟨b, o, u, rfl, hcell, a', n', c', rfl, hl', hnc', hcm', -, -⟩ := hM k l hlk
      have hsn := sumLen_take_succ L k l hlk
      have hle := sumLen_take_le L (k + 1)
      unfold maxLen at hcm'
      rw [hl'] at hsn
      have HSN : Hid (sumLen (L.take (k + 1)) = sumLen (L.take k) + n') := hsn
      generalize hq : sumLen (L.take k) = q at *
      have hn2 : n' ≤ 1048576 := by omega
      by_cases hov : 24 * k + q + (24 + n') ≤ 1048576
      · clear hsn hle hM
        go_wp2
        go_round
        case rel => exact ⟨k + 1, by omega, by go_num, by rw [HSN.out]; go_num, by rw [HSN.out]; omega⟩
        case measure => simp [intOf]; omega
      · have hov2 : (1048576 : Int) < 24 * (k : Int) + q + (24 + n') := by omega
        clear hsn hle hM hov
        go_wp2
        all_goals (go_ret; exact ⟨rfl, Below.refl _ _⟩)
    · obtain rfl : n = k := by omega
      clear hM hz hk hlt
      go_wp2_with (go_at_call 6; refine (clone_any _ L _ HM.out hs).mono ?_; rintro e w1 ⟨v1, rfl, hM1, hb1⟩; have HM1 : Hid (Mat w1 v1 L) := hM1; obtain ⟨a1, n1, c1, rfl, hl1, hnc1, hcm1, hMM⟩ := hM1; obtain rfl : n = n1 := hl.symm.trans hl1; unfold maxLen at hcm1)
      have HMM : Hid (∀ i l, L[i]? = some l → ∃ b o u, a1 = some ⟨b, o, none⟩ ∧ w1.cell? ⟨b, o + i, none⟩ = some u ∧ BytesAt w1 u l) := hMM
      have HB1 : Hid (Below w'.heap.size w' w1) := hb1
      clear hMM hb1
      go_loopw [6] (fun i wr => ∃ k : Nat, k ≤ n ∧ i = .int .i64 k ∧ Added w1 w1.heap.size L k wr) (fun i _ => n - (intOf i).toNat)
      case atStart => exact ⟨0, Nat.zero_le _, rfl, Added.start w1 L⟩
      case round =>
        obtain ⟨k, hk, rfl, hA⟩ := hrel
        by_cases hlt : k < n
        · obtain ⟨l, hlk⟩ : ∃ l, L[k]? = some l := ⟨_, List.getElem?_eq_getElem (by omega)⟩
          obtain ⟨b, o, u, rfl, hcell, hB⟩ := HMM.out k l hlk
          have hadd := add_any w1 w1.heap.size L k l u wr hA hlk hB (by omega) (by omega)
          have hcell2 : wr.cell? ⟨b, o + k, none⟩ = some u := (World.cell?_of_block (hA.bel.block b (World.block_lt_of_cell? w1 _ hcell))).trans hcell
          obtain ⟨a', n', c', rfl, -⟩ := hB
          clear hcell hA hlk
          go_wp2_with (go_at_call 16; refine hadd.mono ?_; rintro e w2 ⟨rfl, hA2⟩)
          go_roundw
          case rel => exact ⟨k + 1, by omega, by go_num, hA2⟩
          case measure => simp [intOf]; omega
        · obtain rfl : n = k := by omega
          have hrp := reply_added w1 w1.heap.size L n wr hA hl hs
          have hfl := flatten_len L
          have hsb := fun w2 => sinkBytes_done w1 wr L.flatten w2 hA.bel (by omega)
          clear hA
          go_wp2_with (first
            | (go_at_call 7; refine (newSink_any _).mono ?_; rintro e w' ⟨rfl, rfl⟩)
            | (go_at_call 8; refine (sinkWriter_any _ _ _ _ (sinkW_4 wr)).mono ?_; rintro e w' ⟨rfl, rfl⟩)
            | (go_at_call 12; refine hrp.mono ?_; rintro e w2 ⟨rfl, hD⟩)
            | (go_at_call 10; refine (hsb w2 hD).mono ?_; rintro e w3 ⟨v3, rfl, hO⟩))
          clear hrp hsb hD
          obtain ⟨hbf, a3, c3, rfl, hc3, hcm3, hrow⟩ := hO
          have HROW : Hid (∀ j x, L.flatten[j]? = some x → ∃ g, a3 = some ⟨g, 0, none⟩ ∧ w3.cell? ⟨g, j, none⟩ = some (.int .u8 x)) := hrow
          have HBF : Hid (Below w1.heap.size w1 w3) := hbf
          clear hrow hbf
          unfold maxLen at hcm3
          rw [hfl] at hc3 ⊢
          go_loopw [10, 11] (fun z i W => ∃ k q : Nat, k ≤ n ∧ i = .int .i64 k ∧ z = .int .i64 (sumLen (L.take k) : Nat) ∧ W = w3.drewN q) (fun _ i _ => n - (intOf i).toNat)
          case atStart => exact ⟨0, 0, Nat.zero_le _, rfl, rfl, rfl⟩
          case round =>
            obtain ⟨k, q, hk, rfl, rfl, rfl⟩ := hrel
            by_cases hlt : k < n
            · obtain ⟨l, hlk⟩ : ∃ l, L[k]? = some l := ⟨_, List.getElem?_eq_getElem (by omega)⟩
              obtain ⟨b, o, u, rfl, hcell, hB⟩ := HMM.out k l hlk
              have hB3 := hB.same HBF.out.block
              have hcell2 : (w3.drewN q).cell? ⟨b, o + k, none⟩ = some u := (World.cell?_of_block (w' := w3) (w := w1) (HBF.out.block b (World.block_lt_of_cell? w1 _ hcell))).trans hcell
              obtain ⟨a', n', c', rfl, hl', hnc', hcm', -, hx'⟩ := hB3
              have HX : Hid (∀ j x, l[j]? = some x → 0 ≤ x ∧ x ≤ 255 ∧ ∃ b o, a' = some ⟨b, o, none⟩ ∧ w3.cell? ⟨b, o + j, none⟩ = some (.int .u8 x)) := hx'
              have hsn := sumLen_take_succ L k l hlk
              have hle := sumLen_take_le L (k + 1)
              unfold maxLen at hcm'
              rw [hl'] at hsn
              have HSN : Hid (sumLen (L.take (k + 1)) = sumLen (L.take k) + n') := hsn
              have hbd : sumLen (L.take k) + n' ≤ sumLen L := by omega
              have hsL : sumLen L ≤ 1048576 := by omega
              have HLK : Hid (L[k]? = some l) := hlk
              clear hcell hB hx' hlk hsn hle
              go_wp2
              go_loopw [10, 13] (fun z i W => ∃ j q p : Nat, j ≤ n' ∧ i = .int .i64 j ∧ z = .int .i64 p ∧ Hid (p = sumLen (L.take k) + j) ∧ W = w3.drewN q) (fun _ i _ => n' - (intOf i).toNat)
              case atStart => exact ⟨0, q, _, Nat.zero_le _, rfl, rfl, rfl, rfl⟩
              case round =>
                clear hcell2
                obtain ⟨j, q', p, hj, rfl, rfl, HP, rfl⟩ := hrel
                by_cases hjn : j < n'
                · obtain ⟨x, hxj⟩ : ∃ x, l[j]? = some x := ⟨_, List.getElem?_eq_getElem (by omega)⟩
                  obtain ⟨hx0, hx255, b2, o2, rfl, hc2⟩ := HX.out j x hxj
                  obtain ⟨g3, rfl, hc4⟩ := HROW.out p x (by rw [HP.out]; exact flatten_at L k l j x HLK.out hxj)
                  have hpl : p < sumLen L := by have := HP.out; omega
                  have hc2' : (w3.drewN q').cell? ⟨b2, o2 + j, none⟩ = some (.int .u8 x) := hc2
                  have hc4' : (w3.drewN q').cell? ⟨g3, p, none⟩ = some (.int .u8 x) := hc4
                  clear hxj
                  go_wp2
                  have hd1 : decide (((sumLen L : Nat) : Int) ≤ (p : Int)) = false := decide_eq_false (by omega)
                  have hd2 : decide (sumLen L ≤ p) = false := decide_eq_false (by omega)
                  go_quiet (fail)
                  clear hd1 hd2
                  go_wp2
                  go_roundw
                  case rel => exact ⟨j + 1, q' + nq, p + 1, by omega, by go_num, by go_num, (by rw [HP.out]; omega : p + 1 = sumLen (L.take k) + (j + 1)), rfl⟩
                  case measure => simp [intOf]; omega
                · obtain rfl : n' = j := by omega
                  have hpe : p = sumLen (L.take (k + 1)) := HP.out.trans HSN.out.symm
                  have hpm : p ≤ 1048576 := by have := HP.out; omega
                  have HPE : Hid (p = sumLen (L.take (k + 1))) := hpe
                  clear hpe
                  go_wp2
                  go_roundw
                  case rel => exact ⟨k + 1, q', by omega, by go_num, by rw [HPE.out], rfl⟩
                  case measure => simp [intOf]; omega
            · obtain rfl : n = k := by omega
              have htk : sumLen (L.take n) = sumLen L := by rw [← hl, sumLen_all]
              rw [htk]
              clear htk
              go_wp2
              go_ret
              refine ⟨rfl, HB1.out.trans ((HBF.out.mono HB1.out.size).trans ⟨rfl, rfl, rfl, Nat.le_refl _, fun _ _ => rfl⟩)⟩
end Go.Proofs.Qxb6614495aDoor
