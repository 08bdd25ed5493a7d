/-
  No cell of these rows narrows 'for every input' (looked for: loops, veiled, ifaces, maps, wideKeys, modest, calm, conditions, laid).
  DERIVED. THE GIVEN ROWS OF THIS SEAT. 2 by the template 'for every input the law returns true; each argument reads behind the call as it read before'; 0 by the template 'total and deterministic' (their statements: YbulkdfmgTotals.lean).
  GIVEN WITH THE SEED: the statements are not yours to turn. If you find one false, say at which input.
  Laid BY PROGRAM, IN A SANDBOX (cutbox-rows.mjs): the forced cells as the released guide's own fill.sh prints them over the translation 7c19f433878d79fa… (all of the seat's roots in one cut). By AI agents, Wed Nov 11 2026. No macro, syntax, notation, axiom, sorry.
-/
import Derived.Test.YbulkdfmgChecked
import GoSem.Claim
import GoSem.ClaimJoined
import GoSem.ClaimMapViews
import Derived.JoinedTies
import Derived.KernelRfl
namespace Go.Proofs.Ybulkdfmg
/- THE CELL 'sum', in the pinned program and in every row, IS THE sha256 OF THE DUMP (.gsa) THAT YbulkdfmgProg.lean LOADS. Nothing in Lean hashes anything: it is a label: what it is worth is what the hold of that sum in a sandbox is worth. -/
noncomputable def Yba.pinned : Pinned := { name := "ybulkdfmg", sum := "7c19f433878d79faf0af368af5d7629b141864233d4f44aba63b98d1442267e9", checked := Yba.checked }
namespace Rows
def none {H : Type} : Left H := { results := [], args := [] }

/-- 'quorate.LawS5336AModel': WHATEVER THE INPUT: true; the input reads as it did. -/
def lawS5336AModelSpec : ChangeSpec := { name := "lawS5336AModel", fn := fun _ => fun
  | [d1, d2, d3, d4, d5] => { results := [.lit (.bool true)], args := [d1, d2, d3, d4, d5] }
  | _ => none }
def lawS5336AModelRow : OpenClaim := { program := "ybulkdfmg", sum := "7c19f433878d79faf0af368af5d7629b141864233d4f44aba63b98d1442267e9", func := "example.com/quorate/quorate.LawS5336AModel", spec := "lawS5336AModel", apart := false }
def LawS5336AModelSaid : Prop := lawS5336AModelRow.holds Yba.pinned (OpenSpec.ofChange lawS5336AModelSpec)

/-- ITS FALSE NEIGHBOUR: 'it returns false'. Refute it at one input. -/
def lawS5336AModelWrong : ChangeSpec := { name := "lawS5336AModel", fn := fun _ => fun
  | [d1, d2, d3, d4, d5] => { results := [.lit (.bool false)], args := [d1, d2, d3, d4, d5] }
  | _ => none }
def LawS5336AModelWrongFalsely : Prop := lawS5336AModelRow.holds Yba.pinned (OpenSpec.ofChange lawS5336AModelWrong)

/-- 'quorate.LawS5336ARoundTrip': WHATEVER THE INPUT: true; the input reads as it did. -/
def lawS5336ARoundTripSpec : ChangeSpec := { name := "lawS5336ARoundTrip", fn := fun _ => fun
  | [d1, d2, d3] => { results := [.lit (.bool true)], args := [d1, d2, d3] }
  | _ => none }
def lawS5336ARoundTripRow : OpenClaim := { program := "ybulkdfmg", sum := "7c19f433878d79faf0af368af5d7629b141864233d4f44aba63b98d1442267e9", func := "example.com/quorate/quorate.LawS5336ARoundTrip", spec := "lawS5336ARoundTrip", apart := false }
def LawS5336ARoundTripSaid : Prop := lawS5336ARoundTripRow.holds Yba.pinned (OpenSpec.ofChange lawS5336ARoundTripSpec)

/-- ITS FALSE NEIGHBOUR: 'it returns false'. Refute it at one input. -/
def lawS5336ARoundTripWrong : ChangeSpec := { name := "lawS5336ARoundTrip", fn := fun _ => fun
  | [d1, d2, d3] => { results := [.lit (.bool false)], args := [d1, d2, d3] }
  | _ => none }
def LawS5336ARoundTripWrongFalsely : Prop := lawS5336ARoundTripRow.holds Yba.pinned (OpenSpec.ofChange lawS5336ARoundTripWrong)

end Rows
end Go.Proofs.Ybulkdfmg
