/-
  No cell of these rows narrows 'for every input' (looked for: loops, veiled, ifaces, maps, wideKeys, modest, calm, conditions, laid).
  DERIVED. THE GIVEN ROWS OF THIS SEAT. 3 by the template 'for every input the law returns true; each argument reads behind the call as it read before'; 0 by the template 'total and deterministic' (their statements: Qxb6614308aTotals.lean).
  GIVEN WITH THE SEED: the statements are not yours to turn. If you find one false, say at which input.
  Laid BY PROGRAM, IN A SANDBOX (cutbox-rows.mjs): the forced cells as the released guide's own fill.sh prints them over the translation 1cf9f3d883071bbe… (all of the seat's roots in one cut). By AI agents, Wed Nov 11 2026. No macro, syntax, notation, axiom, sorry.
-/
import Derived.Test.Qxb6614308aChecked
import GoSem.Claim
import GoSem.ClaimJoined
import GoSem.ClaimMapViews
import Derived.JoinedTies
import Derived.KernelRfl
namespace Go.Proofs.Qxb6614308a
/- THE CELL 'sum', in the pinned program and in every row, IS THE sha256 OF THE DUMP (.gsa) THAT Qxb6614308aProg.lean LOADS. Nothing in Lean hashes anything: it is a label: what it is worth is what the hold of that sum in a sandbox is worth. -/
noncomputable def Try.pinned : Pinned := { name := "qxb6614308a", sum := "1cf9f3d883071bbe797272cd642b3d4a330b0d759f65eb2b5094e75b855e6795", checked := Try.checked }
namespace Rows
def none {H : Type} : Left H := { results := [], args := [] }

/-- 'zzlaws_pkg_terms_b1.FnLineAtStepLaw': WHATEVER THE INPUT: true; the input reads as it did. -/
def fnLineAtStepLawSpec : ChangeSpec := { name := "fnLineAtStepLaw", fn := fun _ => fun
  | [d1, d2] => { results := [.lit (.bool true)], args := [d1, d2] }
  | _ => none }
def fnLineAtStepLawRow : OpenClaim := { program := "qxb6614308a", sum := "1cf9f3d883071bbe797272cd642b3d4a330b0d759f65eb2b5094e75b855e6795", func := "example.com/tuoguan/tuoguan/zzlaws_pkg_terms_b1.FnLineAtStepLaw", spec := "fnLineAtStepLaw", inPlace := ["internal/bytealg.Count", "internal/bytealg.IndexByte", "internal/bytealg.Index"], named := ["internal/bytealg.MaxLen"], apart := false }
def FnLineAtStepLawSaid : Prop := fnLineAtStepLawRow.holds Try.pinned (OpenSpec.ofChange fnLineAtStepLawSpec)

/-- ITS FALSE NEIGHBOUR: 'it returns false'. Refute it at one input. -/
def fnLineAtStepLawWrong : ChangeSpec := { name := "fnLineAtStepLaw", fn := fun _ => fun
  | [d1, d2] => { results := [.lit (.bool false)], args := [d1, d2] }
  | _ => none }
def FnLineAtStepLawWrongFalsely : Prop := fnLineAtStepLawRow.holds Try.pinned (OpenSpec.ofChange fnLineAtStepLawWrong)

/-- 'zzlaws_pkg_terms_b1.FnLineAtCutLaw': WHATEVER THE INPUT: true; the input reads as it did. -/
def fnLineAtCutLawSpec : ChangeSpec := { name := "fnLineAtCutLaw", fn := fun _ => fun
  | [d1, d2, d3] => { results := [.lit (.bool true)], args := [d1, d2, d3] }
  | _ => none }
def fnLineAtCutLawRow : OpenClaim := { program := "qxb6614308a", sum := "1cf9f3d883071bbe797272cd642b3d4a330b0d759f65eb2b5094e75b855e6795", func := "example.com/tuoguan/tuoguan/zzlaws_pkg_terms_b1.FnLineAtCutLaw", spec := "fnLineAtCutLaw", inPlace := ["internal/bytealg.Count", "internal/bytealg.IndexByte", "internal/bytealg.Index"], named := ["internal/bytealg.MaxLen"], apart := false }
def FnLineAtCutLawSaid : Prop := fnLineAtCutLawRow.holds Try.pinned (OpenSpec.ofChange fnLineAtCutLawSpec)

/-- ITS FALSE NEIGHBOUR: 'it returns false'. Refute it at one input. -/
def fnLineAtCutLawWrong : ChangeSpec := { name := "fnLineAtCutLaw", fn := fun _ => fun
  | [d1, d2, d3] => { results := [.lit (.bool false)], args := [d1, d2, d3] }
  | _ => none }
def FnLineAtCutLawWrongFalsely : Prop := fnLineAtCutLawRow.holds Try.pinned (OpenSpec.ofChange fnLineAtCutLawWrong)

/-- 'zzlaws_pkg_terms_b1.FnPayableInjectiveRoundTrip': WHATEVER THE INPUT: true; the input reads as it did. -/
def fnPayableInjectiveRoundTripSpec : ChangeSpec := { name := "fnPayableInjectiveRoundTrip", fn := fun _ => fun
  | [d1, d2, d3, d4] => { results := [.lit (.bool true)], args := [d1, d2, d3, d4] }
  | _ => none }
def fnPayableInjectiveRoundTripRow : OpenClaim := { program := "qxb6614308a", sum := "1cf9f3d883071bbe797272cd642b3d4a330b0d759f65eb2b5094e75b855e6795", func := "example.com/tuoguan/tuoguan/zzlaws_pkg_terms_b1.FnPayableInjectiveRoundTrip", spec := "fnPayableInjectiveRoundTrip", apart := false }
def FnPayableInjectiveRoundTripSaid : Prop := fnPayableInjectiveRoundTripRow.holds Try.pinned (OpenSpec.ofChange fnPayableInjectiveRoundTripSpec)

/-- ITS FALSE NEIGHBOUR: 'it returns false'. Refute it at one input. -/
def fnPayableInjectiveRoundTripWrong : ChangeSpec := { name := "fnPayableInjectiveRoundTrip", fn := fun _ => fun
  | [d1, d2, d3, d4] => { results := [.lit (.bool false)], args := [d1, d2, d3, d4] }
  | _ => none }
def FnPayableInjectiveRoundTripWrongFalsely : Prop := fnPayableInjectiveRoundTripRow.holds Try.pinned (OpenSpec.ofChange fnPayableInjectiveRoundTripWrong)

end Rows
end Go.Proofs.Qxb6614308a
