/-
  (*bufio.Writer).WriteString.
-/
import Derived.Test.Qxb6614495aDoorBufio
namespace Go.Proofs.Qxb6614495aDoor
open Go.RowKit
attribute [local go_sem ↓] Go.wp_at_zero Go.wp_at_succ

theorem bytes_one (l : List UInt8) : ∀ u ∈ Lib.byteCells l, u.oneCell' = true := by
  intro u hu; simp only [Lib.byteCells, List.mem_map] at hu; obtain ⟨x, _, rfl⟩ := hu; rfl

/-- 'copy(dst, s)' into a row, s a string: as many bytes as there is room for. -/
theorem copy_str_row {P : Program} (w : World) (dT sT ty elem : TypeId) (g o dLen dCap : Nat) (s : ByteArray) (cur : Array Value) (t : TypeId) (q : Nat) (hq : Nat.min s.size dLen = q)
    (hu : P.underlying dT = some (.slice elem)) (hs : (P.info? elem).map (·.size) = some 1) (hg : w.heap[g]? = some (.cells cur t (0, 0))) (hfit : o + q ≤ cur.size) :
    (Builtin.copy_ #[dT, sT] ty #[.slice (some ⟨g, o, none⟩) dLen dCap, .string s]).run P w =
      .ok (goInt q) (w.setRow g (cur.toList.take o ++ (Lib.byteCells s.data.toList).take q ++ cur.toList.drop (o + q)).toArray) := by
  have hbl : (Lib.byteCells s.data.toList).length = s.size := by rw [Lib.byteCells_length]; rfl
  have hle : q ≤ s.size := by rw [← hq]; exact Nat.min_le_left _ _
  have hlen : ((Lib.byteCells s.data.toList).take q).length = q := by rw [List.length_take, hbl]; omega
  have hst := run_storeCells_at P g o t ((Lib.byteCells s.data.toList).take q) 0 cur w hg (by rw [hlen]; simpa using hfit) (fun u hu => bytes_one _ u (List.mem_of_mem_take hu))
  rw [hlen] at hst
  simp only [Nat.add_zero] at hst
  have htk : List.take q (List.map (fun b : UInt8 => Value.int IntKind.u8 (b.toNat : Int)) s.data.toList) = (Lib.byteCells s.data.toList).take q := rfl
  cases hi : P.info? elem with
  | none => simp [hi] at hs
  | some i =>
    simp [Builtin.copy_, run_underlying hu, Builtin.lenOf, Builtin.firstCells, sizeOf, typeInfo, hi, hq]
    rw [htk, hst]
    simp [Result.andThen]

/-- 'n := copy(b.buf[b.n:], s); b.n += n': as Sink.copy_run, of a string. -/
theorem Sink.copy_str {b R s : Nat} {bs pend : List Value} {v : Value} {W : World} (h : Sink b R s bs pend v W) (S : ByteArray) (q : Nat) (hq : Nat.min S.size (16384 - pend.length) = q) :
    ∃ W3, (Builtin.copy_ #[24, 9] 3 #[.slice (if 16384 = pend.length then some ⟨R, 0, none⟩ else some ⟨R, pend.length, none⟩) (16384 - pend.length) (16384 - pend.length), .string S]).run Tryd.prog W.drew = .ok (.int .i64 (q : Nat)) W3 ∧
      W3.cell? ⟨s, 0, none⟩ = some .nilIface ∧ W3.cell? ⟨s, 1, none⟩ = some (.slice (some ⟨R, 0, none⟩) 16384 16384) ∧ W3.cell? ⟨s, 2, none⟩ = some (.int .i64 (pend.length : Nat)) ∧ W3.frozen? ⟨s, 2, none⟩ = false ∧
      ∀ m : Nat, m = pend.length + q → Sink b R s bs (pend ++ (Lib.byteCells S.data.toList).take q) v (W3.setCell ⟨s, 2, none⟩ (.int .i64 m)) ∧ Moves b R s v v W (W3.setCell ⟨s, 2, none⟩ (.int .i64 m)) := by
  have hD := h.drew
  have hfit := h.fit
  obtain ⟨cur, hR, hsz, htk⟩ := hD.row
  have hbl : (Lib.byteCells S.data.toList).length = S.size := by rw [Lib.byteCells_length]; rfl
  have hq1 : q ≤ S.size := by rw [← hq]; exact Nat.min_le_left _ _
  have hq2 : q ≤ 16384 - pend.length := by rw [← hq]; exact Nat.min_le_right _ _
  have hlen : ((Lib.byteCells S.data.toList).take q).length = q := by rw [List.length_take, hbl]; omega
  obtain ⟨o, ho, hoq⟩ : ∃ o, (if 16384 = pend.length then some (⟨R, 0, none⟩ : Addr) else some ⟨R, pend.length, none⟩) = some ⟨R, o, none⟩ ∧ (o = pend.length ∨ (q = 0 ∧ o = 0)) := by
    by_cases he : 16384 = pend.length
    · exact ⟨0, by rw [if_pos he], .inr ⟨by omega, rfl⟩⟩
    · exact ⟨pend.length, by rw [if_neg he], .inl rfl⟩
  rw [ho]
  have hcp := copy_str_row (P := Tryd.prog) W.drew 24 9 3 5 R o (16384 - pend.length) (16384 - pend.length) S cur 5 q hq Tryd.underlying24 size5 hR (by rw [hsz]; rcases hoq with e | ⟨e1, e2⟩ <;> omega)
  have harr : (cur.toList.take o ++ (Lib.byteCells S.data.toList).take q ++ cur.toList.drop (o + q)).toArray = (cur.toList.take pend.length ++ (Lib.byteCells S.data.toList).take q ++ cur.toList.drop (pend.length + q)).toArray := by
    rcases hoq with e | ⟨e1, e2⟩
    · rw [e]
    · subst e1 e2; simp
  rw [harr] at hcp
  obtain ⟨r0, r1, r2, r3⟩ := hD.str_row (cur.toList.take pend.length ++ (Lib.byteCells S.data.toList).take q ++ cur.toList.drop (pend.length + q)).toArray
  refine ⟨_, hcp, r0, r1, r2, r3, fun m hm => ?_⟩
  obtain ⟨s1, s2⟩ := hD.copied (chunk := (Lib.byteCells S.data.toList).take q) (by rw [hlen]; omega) (fun u hu => bytes_one _ u (List.mem_of_mem_take hu)) hR (m := m) (by rw [hlen]; exact hm)
  rw [hlen] at s1 s2
  exact ⟨s1, s2.os, s2.tape, s2.output, s2.size, s2.block, s2.new⟩
end Go.Proofs.Qxb6614495aDoor
