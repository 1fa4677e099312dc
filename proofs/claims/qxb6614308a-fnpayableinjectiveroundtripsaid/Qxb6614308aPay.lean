/-
  The law's main way: all lengths small, no colon in the first two texts.
-/
import Derived.Test.Qxb6614308aColon
import Derived.WideShapes
import Derived.Laws.Strings
namespace Go.Proofs.Qxb6614308a
open Go.RowKit Go.WideShapes

/-! ### The plain law -/
theorem split_first : ∀ (a b x y : List UInt8), (a.any fun c => c == 58) = false → (b.any fun c => c == 58) = false → a ++ 58 :: x = b ++ 58 :: y → a = b ∧ x = y
  | [], [], x, y, _, _, h => by simpa using h
  | [], c :: b, x, y, _, hb, h => by
    simp only [List.nil_append, List.cons_append, List.cons.injEq] at h
    rw [← h.1] at hb; simp at hb
  | c :: a, [], x, y, ha, _, h => by
    simp only [List.nil_append, List.cons_append, List.cons.injEq] at h
    rw [h.1] at ha; simp at ha
  | c :: a, d :: b, x, y, ha, hb, h => by
    simp only [List.cons_append, List.cons.injEq] at h
    rw [List.any_cons, Bool.or_eq_false_iff] at ha hb
    obtain ⟨e1, e2⟩ := split_first a b x y ha.2 hb.2 h.2
    exact ⟨by rw [h.1, e1], e2⟩
theorem pay_toList (a x : ByteArray) : (pay a x).data.toList = a.data.toList ++ 58 :: x.data.toList := by
  unfold pay; simp
theorem pay_size (a x : ByteArray) : (pay a x).size = a.size + 1 + x.size := by
  unfold pay; rw [ByteArray.size_append, ByteArray.size_append]; rfl
theorem at_list {s : ByteArray} {k : Nat} {c : UInt8} (h : k < s.size) (e : s.data.toList[k]? = some c) : s[k] = c := by
  have h' : k < s.data.toList.length := by simpa using h
  rw [List.getElem?_eq_getElem h'] at e
  have e0 : s.data[k] = c := by simpa using e
  exact e0
theorem pay_at (a x : ByteArray) (h : a.size < (pay a x).size) : (((pay a x)[a.size].toNat : Int) == 58) = true := by
  have e : (pay a x)[a.size] = (58 : UInt8) := at_list h (by rw [pay_toList, List.getElem?_append_right (by simp)]; simp)
  rw [e]; rfl
theorem pay_below (a x : ByteArray) (j : Nat) (h : j < (pay a x).size) (hj : j < a.size) : (pay a x)[j] = a[j] := by
  refine at_list h ?_
  have h' : j < a.data.toList.length := by simpa using hj
  rw [pay_toList, List.getElem?_append_left h', List.getElem?_eq_getElem h']
  simp; rfl
theorem pay_head (a x : ByteArray) : (pay a x).extract 0 a.size = a := by
  apply bytes_inj
  rw [ByteArray.data_extract, Array.toList_extract, pay_toList]
  simp
theorem pay_tail (a x : ByteArray) : (pay a x).extract (a.size + 1) (a.size + 1 + x.size) = x := by
  apply bytes_inj
  rw [ByteArray.data_extract, Array.toList_extract, pay_toList]
  have e : a.data.toList ++ 58 :: x.data.toList = (a.data.toList ++ [58]) ++ x.data.toList := by simp
  rw [List.extract_eq_take_drop, e, List.drop_left' (by simp), List.take_of_length_le (by simp)]
theorem way1 (a b x y : ByteArray) (h : a.toList = b.toList) : (((pay a x).toList == (pay b y).toList) == (x.toList == y.toList)) = true := by
  rw [ByteArray.toList_eq, ByteArray.toList_eq, ByteArray.toList_eq, ByteArray.toList_eq, pay_toList, pay_toList]
  rw [ByteArray.toList_eq, ByteArray.toList_eq] at h
  rw [h]
  by_cases e : x.data.toList = y.data.toList
  · rw [e]; simp
  · have e' : ¬ b.data.toList ++ 58 :: x.data.toList = b.data.toList ++ 58 :: y.data.toList := fun h => e (by simpa using h)
    rw [beq_false_of_ne e', beq_false_of_ne e]; rfl
theorem way2 (a b x y : ByteArray) (ha : hasC a = false) (hb : hasC b = false) (h : ¬ a.toList = b.toList) : (!((pay a x).toList == (pay b y).toList)) = true := by
  rw [ByteArray.toList_eq, ByteArray.toList_eq, pay_toList, pay_toList]
  rw [ByteArray.toList_eq, ByteArray.toList_eq] at h
  have : ¬ a.data.toList ++ 58 :: x.data.toList = b.data.toList ++ 58 :: y.data.toList := fun e => h (split_first _ _ _ _ ha hb e).1
  simpa using this
theorem ret_bool {a b : Bool} (h : a = b) : Ending.returned (.bool a) = .returned (.bool b) := by rw [h]

/-! ### The walk -/
set_option maxHeartbeats 1000000 in
theorem main_way (a0 a1 a2 a3 : ByteArray) (hf : fits a0 a1 a2 a3 = true) (w0 : a0.size ≤ maxLen) (w1 : a1.size ≤ maxLen) (w2 : a2.size ≤ maxLen) (w3 : a3.size ≤ maxLen)
    (h0 : a0.size ≤ 262144) (h1 : a1.size ≤ 262144) (h2 : a2.size ≤ 262144) (h3 : a3.size ≤ 262144) (c0 : hasC a0 = false) (c1 : hasC a1 = false) (w : World) :
    Calls Try.prog 5 #[.string a0, .string a1, .string a2, .string a3] w fun e w' => e = .returned (.bool true) ∧ Grown w w' := by
  have z0 := pay_size a0 a2
  have z1 := pay_size a1 a3
  have e1 := pay_head a0 a2
  have e2 := pay_tail a0 a2
  have F : Hid (∀ w, Calls Try.prog 12 #[.string (pay a0 a2)] w fun e w' => e = .returned (.int .i64 a0.size) ∧ w' = w) := fun w =>
    first_any (pay a0 a2) a0.size w (by omega) (by omega) (pay_at _ _ _) (fun j hj hjn => by rw [pay_below _ _ _ hj hjn]; exact hasC_not c0 hjn)
  go_enter Try.func5, Try.ntmps5
  go_wp2_with (first
      | (go_at_call 9; refine (zz_any _ _ _ _ _ w0 w1 w2 w3).mono ?_; rintro e w' ⟨rfl, rfl⟩)
      | (go_at_call 10; refine (has_any _ _ (by omega)).mono ?_; rintro e w' ⟨rfl, rfl⟩)
      | (go_at_call 11; refine (pay_any _ _ _ (by omega) (by omega)).mono ?_; rintro e w' ⟨rfl, rfl⟩)
      | (go_at_call 12; refine (F.out _).mono ?_; rintro e w' ⟨rfl, rfl⟩))
  · go_ret
    exact ⟨ret_bool (way1 a0 a1 a2 a3 ‹_›), by repeat (first | exact Grown.refl _ | apply Grown.alloc)⟩
  · go_ret
    exact ⟨ret_bool (way2 a0 a1 a2 a3 c0 c1 ‹_›), by repeat (first | exact Grown.refl _ | apply Grown.alloc)⟩
end Go.Proofs.Qxb6614308a
