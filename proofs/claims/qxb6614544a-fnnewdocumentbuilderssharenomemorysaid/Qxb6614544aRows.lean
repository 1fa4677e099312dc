/-
  No cell of these rows narrows 'for every input' (looked for: loops, veiled, ifaces, maps, wideKeys, modest, calm, conditions, laid).
  DERIVED. THE GIVEN ROWS OF THIS SEAT. 3 by the template 'for every input the law returns true; each argument reads behind the call as it read before'; 0 by the template 'total and deterministic' (their statements: Qxb6614544aTotals.lean).
  GIVEN WITH THE SEED: the statements are not yours to turn. If you find one false, say at which input.
  Laid BY PROGRAM, IN A SANDBOX (cutbox-rows.mjs): the forced cells as the released guide's own fill.sh prints them over the translation 6f8e0de1f31f03f2… (all of the seat's roots in one cut). By AI agents, Wed Nov 11 2026. No macro, syntax, notation, axiom, sorry.
-/
import Derived.Test.Qxb6614544aChecked
import GoSem.Claim
import GoSem.ClaimJoined
import GoSem.ClaimMapViews
import Derived.JoinedTies
import Derived.KernelRfl
namespace Go.Proofs.Qxb6614544a
/- THE CELL 'sum', in the pinned program and in every row, IS THE sha256 OF THE DUMP (.gsa) THAT Qxb6614544aProg.lean LOADS. Nothing in Lean hashes anything: it is a label: what it is worth is what the hold of that sum in a sandbox is worth. -/
noncomputable def Try.pinned : Pinned := { name := "qxb6614544a", sum := "6f8e0de1f31f03f2392ded54cc50fb10d800432cb0c693f62df53387e07430d2", checked := Try.checked }
namespace Rows
def none {H : Type} : Left H := { results := [], args := [] }

/-- 'zzlaws_index_b1.FnNewDocumentBuildersShareNoMemory': WHATEVER THE INPUT: true; the input reads as it did. -/
def fnNewDocumentBuildersShareNoMemorySpec : ChangeSpec := { name := "fnNewDocumentBuildersShareNoMemory", fn := fun _ => fun
  | [d1, d2] => { results := [.lit (.bool true)], args := [d1, d2] }
  | _ => none }
def fnNewDocumentBuildersShareNoMemoryRow : OpenClaim := { program := "qxb6614544a", sum := "6f8e0de1f31f03f2392ded54cc50fb10d800432cb0c693f62df53387e07430d2", func := "example.com/palimpsest/palimpsest/zzlaws_index_b1.FnNewDocumentBuildersShareNoMemory", spec := "fnNewDocumentBuildersShareNoMemory", apart := false }
def FnNewDocumentBuildersShareNoMemorySaid : Prop := fnNewDocumentBuildersShareNoMemoryRow.holds Try.pinned (OpenSpec.ofChange fnNewDocumentBuildersShareNoMemorySpec)

/-- ITS FALSE NEIGHBOUR: 'it returns false'. Refute it at one input. -/
def fnNewDocumentBuildersShareNoMemoryWrong : ChangeSpec := { name := "fnNewDocumentBuildersShareNoMemory", fn := fun _ => fun
  | [d1, d2] => { results := [.lit (.bool false)], args := [d1, d2] }
  | _ => none }
def FnNewDocumentBuildersShareNoMemoryWrongFalsely : Prop := fnNewDocumentBuildersShareNoMemoryRow.holds Try.pinned (OpenSpec.ofChange fnNewDocumentBuildersShareNoMemoryWrong)

/-- 'zzlaws_index_b1.FnContentEncodeListsContentsThenEmpties': WHATEVER THE INPUT: true; the input reads as it did. -/
def fnContentEncodeListsContentsThenEmptiesSpec : ChangeSpec := { name := "fnContentEncodeListsContentsThenEmpties", fn := fun _ => fun
  | [d] => { results := [.lit (.bool true)], args := [d] }
  | _ => none }
def fnContentEncodeListsContentsThenEmptiesRow : OpenClaim := { program := "qxb6614544a", sum := "6f8e0de1f31f03f2392ded54cc50fb10d800432cb0c693f62df53387e07430d2", func := "example.com/palimpsest/palimpsest/zzlaws_index_b1.FnContentEncodeListsContentsThenEmpties", spec := "fnContentEncodeListsContentsThenEmpties", unfollowed := true, recurses := true, named := ["encoding/binary.BigEndian"], apart := false }
def FnContentEncodeListsContentsThenEmptiesSaid : Prop := fnContentEncodeListsContentsThenEmptiesRow.holds Try.pinned (OpenSpec.ofChange fnContentEncodeListsContentsThenEmptiesSpec)

/-- ITS FALSE NEIGHBOUR: 'it returns false'. Refute it at one input. -/
def fnContentEncodeListsContentsThenEmptiesWrong : ChangeSpec := { name := "fnContentEncodeListsContentsThenEmpties", fn := fun _ => fun
  | [d] => { results := [.lit (.bool false)], args := [d] }
  | _ => none }
def FnContentEncodeListsContentsThenEmptiesWrongFalsely : Prop := fnContentEncodeListsContentsThenEmptiesRow.holds Try.pinned (OpenSpec.ofChange fnContentEncodeListsContentsThenEmptiesWrong)

/-- 'zzlaws_index_b1.FnContentEncodeJoinsAtAnyCut': WHATEVER THE INPUT: true; the input reads as it did. -/
def fnContentEncodeJoinsAtAnyCutSpec : ChangeSpec := { name := "fnContentEncodeJoinsAtAnyCut", fn := fun _ => fun
  | [d1, d2] => { results := [.lit (.bool true)], args := [d1, d2] }
  | _ => none }
def fnContentEncodeJoinsAtAnyCutRow : OpenClaim := { program := "qxb6614544a", sum := "6f8e0de1f31f03f2392ded54cc50fb10d800432cb0c693f62df53387e07430d2", func := "example.com/palimpsest/palimpsest/zzlaws_index_b1.FnContentEncodeJoinsAtAnyCut", spec := "fnContentEncodeJoinsAtAnyCut", unfollowed := true, recurses := true, named := ["encoding/binary.BigEndian"], apart := false }
def FnContentEncodeJoinsAtAnyCutSaid : Prop := fnContentEncodeJoinsAtAnyCutRow.holds Try.pinned (OpenSpec.ofChange fnContentEncodeJoinsAtAnyCutSpec)

/-- ITS FALSE NEIGHBOUR: 'it returns false'. Refute it at one input. -/
def fnContentEncodeJoinsAtAnyCutWrong : ChangeSpec := { name := "fnContentEncodeJoinsAtAnyCut", fn := fun _ => fun
  | [d1, d2] => { results := [.lit (.bool false)], args := [d1, d2] }
  | _ => none }
def FnContentEncodeJoinsAtAnyCutWrongFalsely : Prop := fnContentEncodeJoinsAtAnyCutRow.holds Try.pinned (OpenSpec.ofChange fnContentEncodeJoinsAtAnyCutWrong)

end Rows
end Go.Proofs.Qxb6614544a
