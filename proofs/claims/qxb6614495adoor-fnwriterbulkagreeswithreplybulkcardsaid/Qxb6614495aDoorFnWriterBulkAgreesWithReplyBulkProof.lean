/-
  A PROOF OF 'Rows.FnWriterBulkAgreesWithReplyBulkCardSaid': the row, then the tied card.
-/
import Derived.Test.Qxb6614495aDoorRows
import Derived.Test.Qxb6614495aDoorLawB
import Derived.Test.Qxb6614495aDoorTie
import Derived.Test.Qxb6614495aDoorCards
import Derived.WalkKit
import Derived.ProofKit
import Derived.OpenShut
import Derived.ChangeOld
import Derived.Below
import Derived.Deep.Matrix
import Derived.ChangeSame
import Derived.ChangeVars
import Derived.JoinedOf
import Derived.RowKit
import Derived.LaidLaws
import Derived.LaidHandle
import Derived.LaidSub
import Derived.Lib.LaidTab
import Derived.Stop.Joined
import Derived.SevenTiedAt
namespace Go.Proofs.Qxb6614495aDoor.fnWriterBulkAgreesWithReplyBulk
open Go.ChangeShapes Go.WideShapes Go.ChangeAt Go.RowKit

theorem own : ownKnob Tryd.prog.godebug = none := by kernel_rfl
theorem laidOut : laidOutB Tryd.prog = true := by kernel_rfl
theorem cells24 : Tryd.prog.cellsOf 24 = 1 := by kernel_rfl
theorem cells5 : Tryd.prog.cellsOf 5 = 1 := by kernel_rfl

/-- An argument of type [][]byte reads as some lists. -/
theorem mat_of_trod {H : Type} {enc : TypeId × Value → H} {W : World} {a : Option Addr} {len cap fuel : Nat} {x : DataW H × List MemPlace}
    (h : DataW.trod enc Tryd.prog W 0 (fun _ => true) true fuel 22 (Value.slice a len cap).cells.toList = some x) : ∃ L, Mat W (.slice a len cap) L := by
  rcases Go.Deep.open_int_rows Tryd.underlying22 Tryd.underlying24 Tryd.underlying5 cells24 cells5 h with ⟨hcs, _⟩ | ⟨y, l, c, A, L, C, Z, hcs, _, hl, hm, _, hr⟩
  · simp [Value.cells] at hcs
    obtain ⟨rfl, rfl, rfl⟩ := hcs
    exact ⟨[], none, 0, 0, rfl, rfl, Nat.le_refl _, Nat.zero_le _, fun i l h => by simp at h⟩
  · simp [Value.cells] at hcs
    obtain ⟨rfl, rfl, rfl⟩ := hcs
    refine ⟨(List.range len).map fun r => (Z r).take (L r), _, len, cap, rfl, by simp, hl, hm, fun i l hi => ?_⟩
    rw [List.getElem?_map] at hi
    obtain ⟨i', hi', rfl⟩ := Option.map_eq_some_iff.1 hi
    have hilt : i < len := by have := (List.getElem?_eq_some_iff.1 hi').1; simpa using this
    obtain rfl : i = i' := by rw [List.getElem?_range hilt] at hi'; exact Option.some.inj hi'
    obtain ⟨q1, q2, q3, q4, q5, q6, q7⟩ := hr i (by omega)
    obtain ⟨b, o, sp⟩ := y
    have hsp : sp = none := by simpa [Addr.add] using World.cell?_spot (hr 0 (by omega)).1
    subst hsp
    rw [Lib.addr_add] at q1
    refine ⟨b, o, _, rfl, q1, A i, L i, C i, rfl, by rw [List.length_take]; omega, q2, q3, q6, fun j n hj => ?_⟩
    rw [List.getElem?_take] at hj
    split at hj
    · rename_i hjl
      have hmem := List.mem_of_getElem? hj
      have hb := bounds_u8 (q5 n hmem)
      cases hA : A i with
      | none => have := q6 hA; omega
      | some a' =>
        have hc := (q7 a' hA).2 j (by omega)
        have hc0 := (q7 a' hA).2 0 (by omega)
        have hg : (Z i).getD j 0 = n := by rw [List.getD_eq_getElem?_getD, hj]; rfl
        rw [hg] at hc
        obtain ⟨b', o', sp'⟩ := a'
        have hsp' : sp' = none := by simpa [Addr.add] using World.cell?_spot hc0
        subst hsp'
        rw [Lib.addr_add] at hc
        exact ⟨hb.1, hb.2, b', o', rfl, hc⟩
    · cases hj

/-- From the row's condition: the table of powers. -/
theorem tab_of_laid {W : World} (h : laidMetH Tryd.prog Rows.fnWriterBulkAgreesWithReplyBulkRow.laid W) : Lib.TabIs Tryd.prog W "internal/strconv.uint64pow10" .u64 Lib.pow10Tab := by
  have h2 : laidMet Tryd.prog Rows.fnWriterBulkAgreesWithReplyBulkRow.laid W := h
  have h3 := h2.filter (fun x => x.1 == "internal/strconv.uint64pow10")
  have e : (Rows.fnWriterBulkAgreesWithReplyBulkRow.laid.filter fun x => x.1 == "internal/strconv.uint64pow10") = [("internal/strconv.uint64pow10", Lib.tabData .u64 Lib.pow10Tab)] := by kernel_rfl
  rw [e] at h3
  exact Lib.tabIs_of_head (g := 1) (t := 84) (by kernel_rfl) (by kernel_rfl) Tryd.underlying84 Tryd.underlying75 (by kernel_rfl) (by kernel_rfl) h3

abbrev shortS : ByteArray := { data := #[115, 104, 111, 114, 116, 32, 119, 114, 105, 116, 101] }
/-- A table's cells. -/
def tabCells : DataW Unit → Array Value
  | .agg xs => (xs.map fun | .lit (.int k z) => Value.int k z | _ => undef).toArray
  | _ => #[]
noncomputable def low : Nat := (World.holding Tryd.prog default ⟨#[], #[], []⟩).heap.size
def put (h : Array Obj) (k : Nat) (cs : Array Value) : Array Obj := h.modify k fun
  | .cells _ t frozen => .cells cs t frozen
  | o => o
/-- A world that meets the row's condition: the sentinel and the three tables are laid. -/
noncomputable def laidWorld (os : Os) : World :=
  let w0 := World.holding Tryd.prog os ⟨#[.cells #[.string shortS] 115], #[], []⟩
  { w0 with heap := put (put (put (put w0.heap 0 #[.iface 93 (.pointer (some ⟨low, 0, none⟩))]) 1 (tabCells Rows.laid_internal_strconv_uint64pow10)) 2 (tabCells Rows.laid_math_bits_deBruijn32tab)) 3 (tabCells Rows.laid_math_bits_deBruijn64tab) }
set_option maxRecDepth 100000 in
theorem laidWorld_met (os : Os) (args : Array Value) : laidMetH Tryd.prog Rows.fnWriterBulkAgreesWithReplyBulkRow.laid ((laidWorld os).forCall (fun _ _ => 0) ⟨#[], args, []⟩).memory :=
  laidMet_of_run' 8 (by kernel_rfl) (by kernel_rfl)

set_option maxRecDepth 100000 in
theorem lifted (os : Os) (started : os.Started) (H : Type) (enc : TypeId × Value → H) :
    ReturnsInHanded {} Tryd.checked os 3 .any (fun w args => (Rows.fnWriterBulkAgreesWithReplyBulkSpec.pre enc Tryd.prog Tryd.f3 [] false w args ∧ laidMetH Tryd.prog Rows.fnWriterBulkAgreesWithReplyBulkRow.laid w) ∧ sizedMet enc Tryd.prog Tryd.f3 (OpenSpec.ofChange Rows.fnWriterBulkAgreesWithReplyBulkSpec) false w args)
      (Rows.fnWriterBulkAgreesWithReplyBulkSpec.post enc Tryd.prog Tryd.f3 false true false false) := by
  refine returnsInHanded_of_change_and (C := Tryd.checked) (X := fun w _ => laidMetH Tryd.prog Rows.fnWriterBulkAgreesWithReplyBulkRow.laid w) (fun _ _ _ hh h => h.of_heap hh) own started (by kernel_rfl) Tryd.func3
    (ChangeSpec.witness_at (enc := enc) (C := Tryd.checked) (os := os) (X := fun w _ => laidMetH Tryd.prog Rows.fnWriterBulkAgreesWithReplyBulkRow.laid w) false (laidWorld os) #[.slice none 0 0] 8 rfl (by kernel_rfl) (by kernel_rfl) (by kernel_rfl) (by kernel_rfl) (by kernel_rfl) (laidWorld_met os _)) ?_
  intro W base args ds gs before hval0 hW _ _ hL _
  have hval : ∀ (j : Nat) t v, Tryd.f3.params[j]? = some t → args[j]? = some v → Value.okWide Tryd.prog W .any base t v := hval0
  have hW' := hW
  obtain ⟨p, q, hA0, hV, rfl, hfz, hnd⟩ := hW
  have hA : DataW.TrodAll enc Tryd.prog W 0 (fun _ => true) true Tryd.f3.params.toList args.toList ds p := hA0
  rw [Tryd.params3] at hA hval
  obtain ⟨v0, vs0, d0, ds0, p0, q0, hargs, rfl, rfl, h0, r0⟩ := trodAll_cons hA
  obtain ⟨rfl, rfl, rfl⟩ := trodAll_nil r0
  obtain rfl : args = #[v0] := by cases args; simp_all
  obtain ⟨rfl, rfl⟩ := trodVars_none hV
  obtain ⟨a0, len0, cap0, rfl⟩ := okWide_slice Tryd.underlying22 (hval 0 22 v0 rfl rfl)
  have k0 := h0
  have lt0 : ∀ x ∈ p0, x.block < W.heap.size := by obtain ⟨m, hm⟩ := k0; exact DataW.trod_lt m _ _ _ hm
  obtain ⟨L, hM⟩ : ∃ L, Mat W (.slice a0 len0 cap0) L := by
    obtain ⟨fuel, hf⟩ := h0
    exact mat_of_trod hf
  clear hA0 hval0
  refine (lawB_any _ L W hM (tab_of_laid hL)).mono fun e W' ⟨he, hk⟩ => ?_
  subst he
  have bel : Below W.heap.size W { W' with tape := W.tape } := ⟨hk.os, rfl, hk.output, hk.size, hk.block⟩
  have hread := Below.trod laidOut (by kernel_rfl) (of_decide_eq_true (by kernel_rfl)) k0 bel lt0
  have hread' : DataW.Trod enc Tryd.prog W' 0 (fun b => decide (b < W.heap.size)) true 22 (.slice a0 len0 cap0) d0 p0 := by
    obtain ⟨m, hm⟩ := hread
    exact ⟨m, (DataW.trod_heap (w := { W' with tape := W.tape }) (w' := W') rfl m _ _).symm.trans hm⟩
  have hfr : ∀ may, W.keptBut W' may := fun may => bel.frame may
  exact ⟨_, rfl, _, _, _, [], _, [], hW', trodAll_mk1 (shut_bool Tryd.underlying4 _), (trodAll_cons_mk hread' trodAll_mk0), rfl, hfr _, fun h => by cases h⟩

theorem row_holds : Rows.FnWriterBulkAgreesWithReplyBulkSaid :=
  OpenClaim.holds_of_wide 3 Tryd.f3 rfl rfl rfl rfl rfl rfl rfl ⟨rfl, rfl, rfl, rfl, rfl⟩ rfl rfl rfl rfl rfl (by kernel_rfl) Tryd.func3 (by kernel_rfl)
    (of_decide_eq_true (by kernel_rfl)) (by unfold Func.isWrapper; first | (rw [if_pos (by decide +kernel)]; kernel_rfl) | (rw [if_neg (by decide +kernel)]; exact ⟨rfl, rfl⟩))
    (fun os started H enc _ => lifted os started H enc)

/-- ████ THE STATEMENT ████ -/
theorem proved : Rows.FnWriterBulkAgreesWithReplyBulkCardSaid :=
  Claim7.holds_tied_plain_at .later [] [.data, .data, .data, .sentinel] true (true, "43a92454c560ccb502988d857b694dda91f7d86e2d34f68d2d41221f9e0cba03") true
    row_holds (fun _ h => by cases h) (by kernel_rfl) (fun _ h => by cases h) fnWriterBulkAgreesWithReplyBulk_row_tie rfl ⟨rfl, rfl⟩ (by kernel_rfl) rfl
    (fun f fn hf hfn => by
      obtain rfl : f = 3 := Option.some.inj ((show Tryd.prog.funcNamed "example.com/windlass/windlass/zzlaws_internal_resp_b1.FnWriterBulkAgreesWithReplyBulk" = some 3 by kernel_rfl).symm.trans hf) |>.symm
      obtain rfl : fn = Tryd.f3 := (Option.some.inj (Tryd.func3.symm.trans hfn)).symm
      exact ⟨by kernel_rfl, fun j t ht => by
        rw [Tryd.params3] at ht
        have h3 : t = 22 := by
          rcases j with _ | j
          · simpa using ht.symm
          · simp at ht
        subst h3
        exact (show Tryd.prog.wantsStandIn 22 = false by kernel_rfl)⟩)
    (by kernel_rfl)
end Go.Proofs.Qxb6614495aDoor.fnWriterBulkAgreesWithReplyBulk
