/-
  No cell of these rows narrows 'for every input' (looked for: loops, veiled, ifaces, maps, wideKeys, modest, calm, conditions, laid).
  DERIVED. THE GIVEN ROWS OF THIS SEAT. 2 by the template 'for every input the law returns true; each argument reads behind the call as it read before'; 0 by the template 'total and deterministic' (their statements: YbulkbcsaTotals.lean).
  GIVEN WITH THE SEED: the statements are not yours to turn. If you find one false, say at which input.
  Laid BY PROGRAM, IN A SANDBOX (cutbox-rows.mjs): the forced cells as the released guide's own fill.sh prints them over the translation fe5c29fe4e6151cc… (all of the seat's roots in one cut). By AI agents, Wed Nov 11 2026. No macro, syntax, notation, axiom, sorry.
-/
import Derived.Test.YbulkbcsaChecked
import GoSem.Claim
import GoSem.ClaimJoined
import GoSem.ClaimMapViews
import Derived.JoinedTies
import Derived.KernelRfl
namespace Go.Proofs.Ybulkbcsa
/- THE CELL 'sum', in the pinned program and in every row, IS THE sha256 OF THE DUMP (.gsa) THAT YbulkbcsaProg.lean LOADS. Nothing in Lean hashes anything: it is a label: what it is worth is what the hold of that sum in a sandbox is worth. -/
noncomputable def Yba.pinned : Pinned := { name := "ybulkbcsa", sum := "fe5c29fe4e6151cc7ffd98d18190fd5af1e60cec1c4f10e18b7a668a72125d20", checked := Yba.checked }
namespace Rows
def none {H : Type} : Left H := { results := [], args := [] }

/-- 'store.LawS2691CRoundTrip': WHATEVER THE INPUT: true; the input reads as it did. -/
def lawS2691CRoundTripSpec : ChangeSpec := { name := "lawS2691CRoundTrip", fn := fun _ => fun
  | [d1, d2] => { results := [.lit (.bool true)], args := [d1, d2] }
  | _ => none }
def lawS2691CRoundTripRow : OpenClaim := { program := "ybulkbcsa", sum := "fe5c29fe4e6151cc7ffd98d18190fd5af1e60cec1c4f10e18b7a668a72125d20", func := "example.com/vicinity/vicinity/internal/store.LawS2691CRoundTrip", spec := "lawS2691CRoundTrip", apart := false }
def LawS2691CRoundTripSaid : Prop := lawS2691CRoundTripRow.holds Yba.pinned (OpenSpec.ofChange lawS2691CRoundTripSpec)

/-- ITS FALSE NEIGHBOUR: 'it returns false'. Refute it at one input. -/
def lawS2691CRoundTripWrong : ChangeSpec := { name := "lawS2691CRoundTrip", fn := fun _ => fun
  | [d1, d2] => { results := [.lit (.bool false)], args := [d1, d2] }
  | _ => none }
def LawS2691CRoundTripWrongFalsely : Prop := lawS2691CRoundTripRow.holds Yba.pinned (OpenSpec.ofChange lawS2691CRoundTripWrong)

/-- 'store.LawS2691CShape': WHATEVER THE INPUT: true; the input reads as it did. -/
def lawS2691CShapeSpec : ChangeSpec := { name := "lawS2691CShape", fn := fun _ => fun
  | [d] => { results := [.lit (.bool true)], args := [d] }
  | _ => none }
def lawS2691CShapeRow : OpenClaim := { program := "ybulkbcsa", sum := "fe5c29fe4e6151cc7ffd98d18190fd5af1e60cec1c4f10e18b7a668a72125d20", func := "example.com/vicinity/vicinity/internal/store.LawS2691CShape", spec := "lawS2691CShape", apart := false }
def LawS2691CShapeSaid : Prop := lawS2691CShapeRow.holds Yba.pinned (OpenSpec.ofChange lawS2691CShapeSpec)

/-- ITS FALSE NEIGHBOUR: 'it returns false'. Refute it at one input. -/
def lawS2691CShapeWrong : ChangeSpec := { name := "lawS2691CShape", fn := fun _ => fun
  | [d] => { results := [.lit (.bool false)], args := [d] }
  | _ => none }
def LawS2691CShapeWrongFalsely : Prop := lawS2691CShapeRow.holds Yba.pinned (OpenSpec.ofChange lawS2691CShapeWrong)

end Rows
end Go.Proofs.Ybulkbcsa
