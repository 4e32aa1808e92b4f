/-
  No cell of these rows narrows 'for every input' (looked for: loops, veiled, ifaces, maps, wideKeys, modest, calm, conditions, laid).
  DERIVED. THE GIVEN ROWS OF THIS SEAT. 5 by the template 'for every input the law returns true; each argument reads behind the call as it read before'; 0 by the template 'total and deterministic' (their statements: YbulkbcnsFmtTotals.lean).
  GIVEN WITH THE SEED: the statements are not yours to turn. If you find one false, say at which input.
  Laid BY PROGRAM, IN A SANDBOX (cutbox-rows.mjs): the forced cells as the released guide's own fill.sh prints them over the translation 9b44e2c28a71bf16… (all of the seat's roots in one cut). By AI agents, Wed Nov 11 2026. No macro, syntax, notation, axiom, sorry.
-/
import Derived.Test.YbulkbcnsFmtChecked
import GoSem.Claim
import GoSem.ClaimJoined
import GoSem.ClaimMapViews
import Derived.JoinedTies
import Derived.KernelRfl
namespace Go.Proofs.YbulkbcnsFmt
/- THE CELL 'sum', in the pinned program and in every row, IS THE sha256 OF THE DUMP (.gsa) THAT YbulkbcnsFmtProg.lean LOADS. Nothing in Lean hashes anything: it is a label: what it is worth is what the hold of that sum in a sandbox is worth. -/
noncomputable def Ybaf.pinned : Pinned := { name := "ybulkbcnsfmt", sum := "9b44e2c28a71bf167bc3a847c5b79e20356d2912b2c617f8843a87822531ed01", checked := Ybaf.checked }
namespace Rows
def none {H : Type} : Left H := { results := [], args := [] }

/-- 'beforehand.LawS2683ARoundTrip': WHATEVER THE INPUT: true; the input reads as it did. -/
def lawS2683ARoundTripSpec : ChangeSpec := { name := "lawS2683ARoundTrip", fn := fun _ => fun
  | [d1, d2, d3] => { results := [.lit (.bool true)], args := [d1, d2, d3] }
  | _ => none }
def lawS2683ARoundTripRow : OpenClaim := { program := "ybulkbcnsfmt", sum := "9b44e2c28a71bf167bc3a847c5b79e20356d2912b2c617f8843a87822531ed01", func := "example.com/beforehand/beforehand.LawS2683ARoundTrip", spec := "lawS2683ARoundTrip", stops := ["fmt.Sprintf, its operands' methods called"], inPlace := ["fmt.Sprintf"], unfollowed := true, recurses := true, named := ["encoding/binary.LittleEndian"], apart := false }
/-- NO THEOREM (fmt's text is open here; it may be false): for the released tool's asking of the row's closed facts alone. THE STATEMENT IS 'LawS2683ARoundTripToldSaid' (YbulkbcnsFmtCards.lean). -/
def LawS2683ARoundTripFormAsk : Prop := lawS2683ARoundTripRow.holds Ybaf.pinned (OpenSpec.ofChange lawS2683ARoundTripSpec)

/-- ITS FALSE NEIGHBOUR: 'it returns false'. Refute it at one input. -/
def lawS2683ARoundTripWrong : ChangeSpec := { name := "lawS2683ARoundTrip", fn := fun _ => fun
  | [d1, d2, d3] => { results := [.lit (.bool false)], args := [d1, d2, d3] }
  | _ => none }
def LawS2683ARoundTripWrongFormAsk : Prop := lawS2683ARoundTripRow.holds Ybaf.pinned (OpenSpec.ofChange lawS2683ARoundTripWrong)

/-- 'beforehand.LawS2683AWrongCheck': WHATEVER THE INPUT: true; the input reads as it did. -/
def lawS2683AWrongCheckSpec : ChangeSpec := { name := "lawS2683AWrongCheck", fn := fun _ => fun
  | [d1, d2, d3, d4] => { results := [.lit (.bool true)], args := [d1, d2, d3, d4] }
  | _ => none }
def lawS2683AWrongCheckRow : OpenClaim := { program := "ybulkbcnsfmt", sum := "9b44e2c28a71bf167bc3a847c5b79e20356d2912b2c617f8843a87822531ed01", func := "example.com/beforehand/beforehand.LawS2683AWrongCheck", spec := "lawS2683AWrongCheck", stops := ["fmt.Sprintf, its operands' methods called"], inPlace := ["fmt.Sprintf"], unfollowed := true, recurses := true, named := ["encoding/binary.LittleEndian"], apart := false }
/-- NO THEOREM (fmt's text is open here; it may be false): for the released tool's asking of the row's closed facts alone. THE STATEMENT IS 'LawS2683AWrongCheckToldSaid' (YbulkbcnsFmtCards.lean). -/
def LawS2683AWrongCheckFormAsk : Prop := lawS2683AWrongCheckRow.holds Ybaf.pinned (OpenSpec.ofChange lawS2683AWrongCheckSpec)

/-- ITS FALSE NEIGHBOUR: 'it returns false'. Refute it at one input. -/
def lawS2683AWrongCheckWrong : ChangeSpec := { name := "lawS2683AWrongCheck", fn := fun _ => fun
  | [d1, d2, d3, d4] => { results := [.lit (.bool false)], args := [d1, d2, d3, d4] }
  | _ => none }
def LawS2683AWrongCheckWrongFormAsk : Prop := lawS2683AWrongCheckRow.holds Ybaf.pinned (OpenSpec.ofChange lawS2683AWrongCheckWrong)

/-- 'beforehand.LawS2683AAnyBytes': WHATEVER THE INPUT: true; the input reads as it did. -/
def lawS2683AAnyBytesSpec : ChangeSpec := { name := "lawS2683AAnyBytes", fn := fun _ => fun
  | [d1, d2, d3] => { results := [.lit (.bool true)], args := [d1, d2, d3] }
  | _ => none }
def lawS2683AAnyBytesRow : OpenClaim := { program := "ybulkbcnsfmt", sum := "9b44e2c28a71bf167bc3a847c5b79e20356d2912b2c617f8843a87822531ed01", func := "example.com/beforehand/beforehand.LawS2683AAnyBytes", spec := "lawS2683AAnyBytes", stops := ["fmt.Sprintf, its operands' methods called"], inPlace := ["fmt.Sprintf"], unfollowed := true, recurses := true, named := ["encoding/binary.LittleEndian"], apart := false }
/-- NO THEOREM (fmt's text is open here; it may be false): for the released tool's asking of the row's closed facts alone. THE STATEMENT IS 'LawS2683AAnyBytesToldSaid' (YbulkbcnsFmtCards.lean). -/
def LawS2683AAnyBytesFormAsk : Prop := lawS2683AAnyBytesRow.holds Ybaf.pinned (OpenSpec.ofChange lawS2683AAnyBytesSpec)

/-- ITS FALSE NEIGHBOUR: 'it returns false'. Refute it at one input. -/
def lawS2683AAnyBytesWrong : ChangeSpec := { name := "lawS2683AAnyBytes", fn := fun _ => fun
  | [d1, d2, d3] => { results := [.lit (.bool false)], args := [d1, d2, d3] }
  | _ => none }
def LawS2683AAnyBytesWrongFormAsk : Prop := lawS2683AAnyBytesRow.holds Ybaf.pinned (OpenSpec.ofChange lawS2683AAnyBytesWrong)

/-- 'beforehand.LawS2683BOffset': WHATEVER THE INPUT: true; the input reads as it did. -/
def lawS2683BOffsetSpec : ChangeSpec := { name := "lawS2683BOffset", fn := fun _ => fun
  | [d] => { results := [.lit (.bool true)], args := [d] }
  | _ => none }
def lawS2683BOffsetRow : OpenClaim := { program := "ybulkbcnsfmt", sum := "9b44e2c28a71bf167bc3a847c5b79e20356d2912b2c617f8843a87822531ed01", func := "example.com/beforehand/beforehand.LawS2683BOffset", spec := "lawS2683BOffset", stops := ["fmt.Sprintf, its operands' methods called"], inPlace := ["fmt.Sprintf"], unfollowed := true, recurses := true, apart := false }
/-- NO THEOREM (fmt's text is open here; it may be false): for the released tool's asking of the row's closed facts alone. THE STATEMENT IS 'LawS2683BOffsetToldSaid' (YbulkbcnsFmtCards.lean). -/
def LawS2683BOffsetFormAsk : Prop := lawS2683BOffsetRow.holds Ybaf.pinned (OpenSpec.ofChange lawS2683BOffsetSpec)

/-- ITS FALSE NEIGHBOUR: 'it returns false'. Refute it at one input. -/
def lawS2683BOffsetWrong : ChangeSpec := { name := "lawS2683BOffset", fn := fun _ => fun
  | [d] => { results := [.lit (.bool false)], args := [d] }
  | _ => none }
def LawS2683BOffsetWrongFormAsk : Prop := lawS2683BOffsetRow.holds Ybaf.pinned (OpenSpec.ofChange lawS2683BOffsetWrong)

/-- 'beforehand.LawS2683BForms': WHATEVER THE INPUT: true; the input reads as it did. -/
def lawS2683BFormsSpec : ChangeSpec := { name := "lawS2683BForms", fn := fun _ => fun
  | [d1, d2] => { results := [.lit (.bool true)], args := [d1, d2] }
  | _ => none }
def lawS2683BFormsRow : OpenClaim := { program := "ybulkbcnsfmt", sum := "9b44e2c28a71bf167bc3a847c5b79e20356d2912b2c617f8843a87822531ed01", func := "example.com/beforehand/beforehand.LawS2683BForms", spec := "lawS2683BForms", stops := ["fmt.Sprintf, its operands' methods called"], inPlace := ["fmt.Sprintf"], unfollowed := true, recurses := true, apart := false }
/-- NO THEOREM (fmt's text is open here; it may be false): for the released tool's asking of the row's closed facts alone. THE STATEMENT IS 'LawS2683BFormsToldSaid' (YbulkbcnsFmtCards.lean). -/
def LawS2683BFormsFormAsk : Prop := lawS2683BFormsRow.holds Ybaf.pinned (OpenSpec.ofChange lawS2683BFormsSpec)

/-- ITS FALSE NEIGHBOUR: 'it returns false'. Refute it at one input. -/
def lawS2683BFormsWrong : ChangeSpec := { name := "lawS2683BForms", fn := fun _ => fun
  | [d1, d2] => { results := [.lit (.bool false)], args := [d1, d2] }
  | _ => none }
def LawS2683BFormsWrongFormAsk : Prop := lawS2683BFormsRow.holds Ybaf.pinned (OpenSpec.ofChange lawS2683BFormsWrong)

end Rows
end Go.Proofs.YbulkbcnsFmt
