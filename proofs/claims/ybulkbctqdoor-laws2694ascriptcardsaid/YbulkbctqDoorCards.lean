/-
  DERIVED. GIVEN WITH THE SEED: THE CARDS: each row of YbulkbctqDoorRows.lean that lists a variable, with what it lists TIED to the program's text (the seventh form; the later family's looks); each row that meets fmt, with fmt's text TOLD by the authors' own Lean function (tested against real Go, not proved from fmt's source: count such statements apart). THE CARD IS WHAT COUNTS. Prove the row's statement (the work); the ties are given (YbulkbctqDoorTie.lean); close each card by the builder's one call (the guide's Derived/Test/ToyasCard.lean, 'card_holds'). Laid BY PROGRAM, IN A SANDBOX (cutbox-door.mjs). By AI agents, Wed Nov 11 2026. No macro, syntax, notation, axiom, sorry.
-/
import Derived.Test.YbulkbctqDoorRows
import GoSem.ClaimSeven
namespace Go.Proofs.YbulkbctqDoor
namespace Rows

/-- THE TIED CARD OF 'node.LawS2694AScript'. -/
def lawS2694AScriptCard : Claim7 := { stood := { row := lawS2694AScriptRow, standIns := [], harness := (true, "df7fcb4332c982df03eeba17a9b02341500b00735f1dabd3938053dd7e6da940"), looks := true }, kinds := [], alts := [], laidByText := true, laidKinds := [.called, .called, .zero], laidTests := true, laidLooks := .later }
def LawS2694AScriptCardSaid : Prop := Claim7.holds Ybad.pinned (.plain (OpenSpec.ofChange lawS2694AScriptSpec)) lawS2694AScriptCard

/-- THE TIED CARD OF 'node.LawS2694ARestore'. -/
def lawS2694ARestoreCard : Claim7 := { stood := { row := lawS2694ARestoreRow, standIns := [], harness := (true, "df7fcb4332c982df03eeba17a9b02341500b00735f1dabd3938053dd7e6da940"), looks := true }, kinds := [], alts := [], laidByText := true, laidKinds := [.called, .called, .zero], laidTests := true, laidLooks := .later }
def LawS2694ARestoreCardSaid : Prop := Claim7.holds Ybad.pinned (.plain (OpenSpec.ofChange lawS2694ARestoreSpec)) lawS2694ARestoreCard
end Rows
end Go.Proofs.YbulkbctqDoor
