/-
  appendHeader onto a row that the Reply owns.
-/
import Derived.Test.Qxb6614495aDoorHead
import Derived.Test.Qxb6614495aDoorAdd
import Derived.Lib.ItoaLen
namespace Go.Proofs.Qxb6614495aDoor
open Go.RowKit Go.Shelf

theorem own_kind {w : World} {B n size : Nat} {e : TypeId} {v : Value} {xs : List Value} (h : w.ownsRow B e size v n xs) : ∀ g, v.ownBlock = some g → ∃ c fz, w.heap[g]? = some (.cells c e fz) := by
  intro g hg
  rcases h.2 with ⟨rfl, _⟩ | ⟨g', cap, cur, rfl, _, hgg, _⟩
  · simp [Value.ownBlock] at hg
  · simp [Value.ownBlock] at hg
    subst hg
    exact ⟨cur, (0, 0), hgg⟩

set_option maxHeartbeats 4000000 in
set_option maxRecDepth 100000 in
theorem header_own (B n : Nat) (sv : Value) (xs : List Value) (w : World) (hown : w.ownsRow B 5 1 sv n xs) (hB : B ≤ w.heap.size) (u : Nat) (hu : u ≤ 1048576) (hlim : n + 60 ≤ 140737488355328) (htab : Lib.TabBelow Tryd.prog B w "internal/strconv.uint64pow10" .u64 Lib.pow10Tab) :
    Calls Tryd.prog 19 #[sv, .int .u8 36, .int .i64 u] w fun e w' => ∃ v', e = .returned v' ∧ w'.ownsRow B 5 1 v' (n + (hdr u).length) (xs ++ hdr u) ∧ Below B w w' ∧ Lib.OthersKept 5 none w w' := by
  obtain ⟨i0, hi, hz0, hz1, hz2⟩ := info_parts info5c
  have hdl : (Lib.itoa (u : Int)).length ≤ 21 := Lib.itoa_length_le u (by omega) (by omega)
  have hAI := fun n sv xs w h1 h2 h3 h4 => Any.strconv_AppendInt_10 { appLays with } B n u (by omega) (by omega) sv xs w h1 h2 h3 h4
  have e1 : n + (hdr u).length = n + 1 + (Lib.itoa (u : Int)).length + 2 := by rw [Lib.itoa_nonneg]; simp [hdr, Lib.byteCells_length]; omega
  have e2 : xs ++ hdr u = xs ++ [.int .u8 36] ++ Lib.byteCells (Lib.itoa (u : Int)) ++ [.int .u8 13, .int .u8 10] := by rw [Lib.itoa_nonneg]; simp [hdr]
  rw [e1, e2]
  clear e1 e2
  obtain ⟨l, hl⟩ : ∃ l, l = Lib.itoa (u : Int) := ⟨_, rfl⟩
  rw [← hl] at hAI hdl ⊢
  clear hl
  have HO : Hid (w.ownsRow B 5 1 sv n xs) := hown
  clear hown
  go_enter Tryd.func19, Tryd.ntmps19
  go_wp2_with (at_builtin; refine wpList_append_own _ rfl _ _ _ rfl B 5 i0 (.int .u8 0) 1 1 Tryd.underlying24 hi hz0 hz1 hz2 rfl (by decide) sv n xs rfl (HO.out.alloc _) ⟨w.heap.size, 0, none⟩ 1 1 [Value.int .u8 36] rfl rfl (by intro j u' hj; match j, hj with | 0, hj => simp at hj; subst hj; simp [Addr.add]) (by intro u' hu'; simp at hu'; subst hu'; rfl) (by unfold maxLen; omega) (by omega) (by simp; omega) ?_)
  intro v1 w1 hown1 hgrow _
  have hb1 : Below B w w1 := ((Below.refl B w).alloc hB _).grown hgrow (by simp; omega) (fun k hk => (HO.out.lt k hk).1)
  have hk1 : Lib.OthersKept 5 none w w1 := ((Lib.OthersKept.refl 5 none w).alloc _).grown hgrow (own_kind (HO.out.alloc _))
  have HF : Hid (w1.ownsRow B 5 1 v1 (n + 1) (xs ++ [.int .u8 36]) ∧ Below B w w1 ∧ Lib.OthersKept 5 none w w1) := ⟨hown1, hb1, hk1⟩
  clear hown1 hgrow hb1 hk1
  go_wp2_with (go_at_call 28; refine (hAI _ v1 _ w1 HF.out.1 (by have := HF.out.2.1.size; omega) (by omega) (htab.on HF.out.2.1)).mono ?_; rintro e w2 ⟨v2, rfl, hown2, hb2, hk2⟩; refine Hid.out ?_)
  refine Lib.hid ?_
  have HG : Hid (w2.ownsRow B 5 1 v2 (n + 1 + l.length) (xs ++ [.int .u8 36] ++ Lib.byteCells l) ∧ Below B w w2 ∧ Lib.OthersKept 5 none w w2) := ⟨hown2, HF.out.2.1.trans hb2, HF.out.2.2.trans hk2⟩
  clear hown2 hb2 hk2 HF
  go_wp2_with (at_builtin; refine wpList_append_own _ rfl _ _ _ rfl B 5 i0 (.int .u8 0) 1 1 Tryd.underlying24 hi hz0 hz1 hz2 rfl (by decide) v2 (n + 1 + l.length) (xs ++ [.int .u8 36] ++ Lib.byteCells l) rfl (HG.out.1.alloc _) ⟨w2.heap.size, 0, none⟩ 2 2 [Value.int .u8 13, Value.int .u8 10] rfl rfl (by intro j u' hj; match j, hj with | 0, hj => simp at hj; subst hj; simp [Addr.add] | 1, hj => simp at hj; subst hj; simp [Addr.add]) (by intro u' hu'; simp at hu'; rcases hu' with rfl | rfl <;> rfl) (by unfold maxLen; omega) (by omega) (by have := HG.out.2.1.size; simp; omega) ?_)
  intro v3 w3 hown3 hgrow _
  have hs2 := HG.out.2.1.size
  have hb3 : Below B w w3 := (HG.out.2.1.alloc (by omega) _).grown hgrow (by simp; omega) (fun k hk => (HG.out.1.lt k hk).1)
  have hk3 : Lib.OthersKept 5 none w w3 := (HG.out.2.2.alloc _).grown hgrow (own_kind (HG.out.1.alloc _))
  clear hgrow HG HO
  go_wp2
  go_ret
  exact ⟨v3, rfl, by simpa using hown3, hb3, hk3⟩
end Go.Proofs.Qxb6614495aDoor
