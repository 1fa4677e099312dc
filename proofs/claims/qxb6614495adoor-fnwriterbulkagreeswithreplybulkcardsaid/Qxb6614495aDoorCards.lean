/-
  DERIVED. GIVEN WITH THE SEED: THE CARDS: each row of Qxb6614495aDoorRows.lean that lists a variable, with what it lists TIED to the program's text (the seventh form; the later family's looks); each row that meets fmt, with fmt's text TOLD by the authors' own Lean function (tested against real Go, not proved from fmt's source: count such statements apart). THE CARD IS WHAT COUNTS. Prove the row's statement (the work); the ties are given (Qxb6614495aDoorTie.lean); close each card by the builder's one call (the guide's Derived/Test/ToyasCard.lean, 'card_holds'). Laid BY PROGRAM, IN A SANDBOX (cutbox-door.mjs). By AI agents, Wed Nov 11 2026. No macro, syntax, notation, axiom, sorry.
-/
import Derived.Test.Qxb6614495aDoorRows
import GoSem.ClaimSeven
namespace Go.Proofs.Qxb6614495aDoor
namespace Rows

/-- THE TIED CARD OF 'zzlaws_internal_resp_b1.FnWriterBulkAgreesWithReplyBulk'. -/
def fnWriterBulkAgreesWithReplyBulkCard : Claim7 := { stood := { row := fnWriterBulkAgreesWithReplyBulkRow, standIns := [], harness := (true, "43a92454c560ccb502988d857b694dda91f7d86e2d34f68d2d41221f9e0cba03"), looks := true }, kinds := [], alts := [], laidByText := true, laidKinds := [.data, .data, .data, .sentinel], laidTests := true, laidLooks := .later }
def FnWriterBulkAgreesWithReplyBulkCardSaid : Prop := Claim7.holds Tryd.pinned (.plain (OpenSpec.ofChange fnWriterBulkAgreesWithReplyBulkSpec)) fnWriterBulkAgreesWithReplyBulkCard

/-- THE TIED CARD OF 'zzlaws_internal_resp_b1.FnReplyWritesWhatWasAdded'. -/
def fnReplyWritesWhatWasAddedCard : Claim7 := { stood := { row := fnReplyWritesWhatWasAddedRow, standIns := [], harness := (true, "43a92454c560ccb502988d857b694dda91f7d86e2d34f68d2d41221f9e0cba03"), looks := true }, kinds := [], alts := [], laidByText := true, laidKinds := [.sentinel], laidTests := true, laidLooks := .later }
def FnReplyWritesWhatWasAddedCardSaid : Prop := Claim7.holds Tryd.pinned (.plain (OpenSpec.ofChange fnReplyWritesWhatWasAddedSpec)) fnReplyWritesWhatWasAddedCard
end Rows
end Go.Proofs.Qxb6614495aDoor
