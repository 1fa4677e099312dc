/-
  No cell of these rows narrows 'for every input' (looked for: loops, veiled, ifaces, maps, wideKeys, modest, calm, conditions, laid).
  DERIVED. THE GIVEN ROWS OF THIS SEAT. 2 by the template 'for every input the law returns true; each argument reads behind the call as it read before'; 0 by the template 'total and deterministic' (their statements: Qxb6609096aTotals.lean).
  GIVEN WITH THE SEED: the statements are not yours to turn. If you find one false, say at which input.
  Laid BY PROGRAM, IN A SANDBOX (cutbox-rows.mjs): the forced cells as the released guide's own fill.sh prints them over the translation 67eaeea6c5090f6d… (all of the seat's roots in one cut). By AI agents, Wed Nov 11 2026. No macro, syntax, notation, axiom, sorry.
-/
import Derived.Test.Qxb6609096aChecked
import GoSem.Claim
import GoSem.ClaimJoined
import GoSem.ClaimMapViews
import Derived.JoinedTies
import Derived.KernelRfl
namespace Go.Proofs.Qxb6609096a
/- THE CELL 'sum', in the pinned program and in every row, IS THE sha256 OF THE DUMP (.gsa) THAT Qxb6609096aProg.lean LOADS. Nothing in Lean hashes anything: it is a label: what it is worth is what the hold of that sum in a sandbox is worth. -/
noncomputable def Try.pinned : Pinned := { name := "qxb6609096a", sum := "67eaeea6c5090f6df94a812ebe66a903468a1996430fb416595014b07a1b371d", checked := Try.checked }
namespace Rows
def none {H : Type} : Left H := { results := [], args := [] }

/-- 'zzlaws_root_b1.FnCompareSharesExact': WHATEVER THE INPUT: true; the input reads as it did. -/
def fnCompareSharesExactSpec : ChangeSpec := { name := "fnCompareSharesExact", fn := fun _ => fun
  | [d1, d2, d3, d4] => { results := [.lit (.bool true)], args := [d1, d2, d3, d4] }
  | _ => none }
def fnCompareSharesExactRow : OpenClaim := { program := "qxb6609096a", sum := "67eaeea6c5090f6df94a812ebe66a903468a1996430fb416595014b07a1b371d", func := "example.com/grainwise/grainwise/zzlaws_root_b1.FnCompareSharesExact", spec := "fnCompareSharesExact", apart := false }
def FnCompareSharesExactSaid : Prop := fnCompareSharesExactRow.holds Try.pinned (OpenSpec.ofChange fnCompareSharesExactSpec)

/-- ITS FALSE NEIGHBOUR: 'it returns false'. Refute it at one input. -/
def fnCompareSharesExactWrong : ChangeSpec := { name := "fnCompareSharesExact", fn := fun _ => fun
  | [d1, d2, d3, d4] => { results := [.lit (.bool false)], args := [d1, d2, d3, d4] }
  | _ => none }
def FnCompareSharesExactWrongFalsely : Prop := fnCompareSharesExactRow.holds Try.pinned (OpenSpec.ofChange fnCompareSharesExactWrong)

/-- 'zzlaws_root_b1.FnCompareSharesMonotone': WHATEVER THE INPUT: true; the input reads as it did. -/
def fnCompareSharesMonotoneSpec : ChangeSpec := { name := "fnCompareSharesMonotone", fn := fun _ => fun
  | [d1, d2, d3] => { results := [.lit (.bool true)], args := [d1, d2, d3] }
  | _ => none }
def fnCompareSharesMonotoneRow : OpenClaim := { program := "qxb6609096a", sum := "67eaeea6c5090f6df94a812ebe66a903468a1996430fb416595014b07a1b371d", func := "example.com/grainwise/grainwise/zzlaws_root_b1.FnCompareSharesMonotone", spec := "fnCompareSharesMonotone", apart := false }
def FnCompareSharesMonotoneSaid : Prop := fnCompareSharesMonotoneRow.holds Try.pinned (OpenSpec.ofChange fnCompareSharesMonotoneSpec)

/-- ITS FALSE NEIGHBOUR: 'it returns false'. Refute it at one input. -/
def fnCompareSharesMonotoneWrong : ChangeSpec := { name := "fnCompareSharesMonotone", fn := fun _ => fun
  | [d1, d2, d3] => { results := [.lit (.bool false)], args := [d1, d2, d3] }
  | _ => none }
def FnCompareSharesMonotoneWrongFalsely : Prop := fnCompareSharesMonotoneRow.holds Try.pinned (OpenSpec.ofChange fnCompareSharesMonotoneWrong)

end Rows
end Go.Proofs.Qxb6609096a
