/-
  DERIVED. GIVEN WITH THE SEED: THE CARDS: each row of YbulkbcnsFmtRows.lean that lists a variable, with what it lists TIED to the program's text (the seventh form; the later family's looks); each row that meets fmt, with fmt's text TOLD by the authors' own Lean function (tested against real Go, not proved from fmt's source: count such statements apart). THE CARD IS WHAT COUNTS. Prove the row's statement (the work); the ties are given (YbulkbcnsFmtTie.lean); close each card by the builder's one call (the guide's Derived/Test/ToyasCard.lean, 'card_holds'). Laid BY PROGRAM, IN A SANDBOX (cutbox-door.mjs). By AI agents, Wed Nov 11 2026. No macro, syntax, notation, axiom, sorry.
-/
import Derived.Test.YbulkbcnsFmtRows
import GoSem.ClaimSeven
namespace Go.Proofs.YbulkbcnsFmt
namespace Rows

/-- THE TOLD CARD OF 'beforehand.LawS2683ARoundTrip'. -/
def lawS2683ARoundTripCard : Claim7 := { stood := { row := lawS2683ARoundTripRow, standIns := [], harness := (true, "bc4f5536f93b9f97d221ea7e89589217ec66202a109794f59ab794d0d0277095"), looks := true }, told := true, goes := false }
def LawS2683ARoundTripToldSaid : Prop := Claim7.holds Ybaf.pinned (.plain (OpenSpec.ofChange lawS2683ARoundTripSpec)) lawS2683ARoundTripCard
/-- ITS FALSE NEIGHBOUR. Refute it at one input. -/
def LawS2683ARoundTripToldWrongFalsely : Prop := Claim7.holds Ybaf.pinned (.plain (OpenSpec.ofChange lawS2683ARoundTripWrong)) lawS2683ARoundTripCard

/-- THE TOLD CARD OF 'beforehand.LawS2683AWrongCheck'. -/
def lawS2683AWrongCheckCard : Claim7 := { stood := { row := lawS2683AWrongCheckRow, standIns := [], harness := (true, "bc4f5536f93b9f97d221ea7e89589217ec66202a109794f59ab794d0d0277095"), looks := true }, told := true, goes := false }
def LawS2683AWrongCheckToldSaid : Prop := Claim7.holds Ybaf.pinned (.plain (OpenSpec.ofChange lawS2683AWrongCheckSpec)) lawS2683AWrongCheckCard
/-- ITS FALSE NEIGHBOUR. Refute it at one input. -/
def LawS2683AWrongCheckToldWrongFalsely : Prop := Claim7.holds Ybaf.pinned (.plain (OpenSpec.ofChange lawS2683AWrongCheckWrong)) lawS2683AWrongCheckCard

/-- THE TOLD CARD OF 'beforehand.LawS2683AAnyBytes'. -/
def lawS2683AAnyBytesCard : Claim7 := { stood := { row := lawS2683AAnyBytesRow, standIns := [], harness := (true, "bc4f5536f93b9f97d221ea7e89589217ec66202a109794f59ab794d0d0277095"), looks := true }, told := true, goes := false }
def LawS2683AAnyBytesToldSaid : Prop := Claim7.holds Ybaf.pinned (.plain (OpenSpec.ofChange lawS2683AAnyBytesSpec)) lawS2683AAnyBytesCard
/-- ITS FALSE NEIGHBOUR. Refute it at one input. -/
def LawS2683AAnyBytesToldWrongFalsely : Prop := Claim7.holds Ybaf.pinned (.plain (OpenSpec.ofChange lawS2683AAnyBytesWrong)) lawS2683AAnyBytesCard

/-- THE TOLD CARD OF 'beforehand.LawS2683BOffset'. -/
def lawS2683BOffsetCard : Claim7 := { stood := { row := lawS2683BOffsetRow, standIns := [], harness := (true, "bc4f5536f93b9f97d221ea7e89589217ec66202a109794f59ab794d0d0277095"), looks := true }, told := true, goes := false }
def LawS2683BOffsetToldSaid : Prop := Claim7.holds Ybaf.pinned (.plain (OpenSpec.ofChange lawS2683BOffsetSpec)) lawS2683BOffsetCard
/-- ITS FALSE NEIGHBOUR. Refute it at one input. -/
def LawS2683BOffsetToldWrongFalsely : Prop := Claim7.holds Ybaf.pinned (.plain (OpenSpec.ofChange lawS2683BOffsetWrong)) lawS2683BOffsetCard

/-- THE TOLD CARD OF 'beforehand.LawS2683BForms'. -/
def lawS2683BFormsCard : Claim7 := { stood := { row := lawS2683BFormsRow, standIns := [], harness := (true, "bc4f5536f93b9f97d221ea7e89589217ec66202a109794f59ab794d0d0277095"), looks := true }, told := true, goes := false }
def LawS2683BFormsToldSaid : Prop := Claim7.holds Ybaf.pinned (.plain (OpenSpec.ofChange lawS2683BFormsSpec)) lawS2683BFormsCard
/-- ITS FALSE NEIGHBOUR. Refute it at one input. -/
def LawS2683BFormsToldWrongFalsely : Prop := Claim7.holds Ybaf.pinned (.plain (OpenSpec.ofChange lawS2683BFormsWrong)) lawS2683BFormsCard
end Rows
end Go.Proofs.YbulkbcnsFmt
