/-
  No cell of these rows narrows 'for every input' (looked for: loops, veiled, ifaces, maps, wideKeys, modest, calm, conditions, laid).
  DERIVED. THE GIVEN ROWS OF THIS SEAT. 3 by the template 'for every input the law returns true; each argument reads behind the call as it read before'; 0 by the template 'total and deterministic' (their statements: YbulkdfleTotals.lean).
  GIVEN WITH THE SEED: the statements are not yours to turn. If you find one false, say at which input.
  Laid BY PROGRAM, IN A SANDBOX (cutbox-rows.mjs): the forced cells as the released guide's own fill.sh prints them over the translation 63695f7b046c9ee9… (all of the seat's roots in one cut). By AI agents, Wed Nov 11 2026. No macro, syntax, notation, axiom, sorry.
-/
import Derived.Test.YbulkdfleChecked
import GoSem.Claim
import GoSem.ClaimJoined
import GoSem.ClaimMapViews
import Derived.JoinedTies
import Derived.KernelRfl
namespace Go.Proofs.Ybulkdfle
/- THE CELL 'sum', in the pinned program and in every row, IS THE sha256 OF THE DUMP (.gsa) THAT YbulkdfleProg.lean LOADS. Nothing in Lean hashes anything: it is a label: what it is worth is what the hold of that sum in a sandbox is worth. -/
noncomputable def Yba.pinned : Pinned := { name := "ybulkdfle", sum := "63695f7b046c9ee9c59367fc930a8a7c2d90ec183344fa6a8aeda576505dcc87", checked := Yba.checked }
namespace Rows
def none {H : Type} : Left H := { results := [], args := [] }

/-- 'kalends.LawS5334AExact': WHATEVER THE INPUT: true; the input reads as it did. -/
def lawS5334AExactSpec : ChangeSpec := { name := "lawS5334AExact", fn := fun _ => fun
  | [d1, d2] => { results := [.lit (.bool true)], args := [d1, d2] }
  | _ => none }
def lawS5334AExactRow : OpenClaim := { program := "ybulkdfle", sum := "63695f7b046c9ee9c59367fc930a8a7c2d90ec183344fa6a8aeda576505dcc87", func := "example.com/kalends/kalends.LawS5334AExact", spec := "lawS5334AExact", unfollowed := true, recurses := true, apart := false }
def LawS5334AExactSaid : Prop := lawS5334AExactRow.holds Yba.pinned (OpenSpec.ofChange lawS5334AExactSpec)

/-- ITS FALSE NEIGHBOUR: 'it returns false'. Refute it at one input. -/
def lawS5334AExactWrong : ChangeSpec := { name := "lawS5334AExact", fn := fun _ => fun
  | [d1, d2] => { results := [.lit (.bool false)], args := [d1, d2] }
  | _ => none }
def LawS5334AExactWrongFalsely : Prop := lawS5334AExactRow.holds Yba.pinned (OpenSpec.ofChange lawS5334AExactWrong)

/-- 'kalends.LawS5334AFresh': WHATEVER THE INPUT: true; the input reads as it did. -/
def lawS5334AFreshSpec : ChangeSpec := { name := "lawS5334AFresh", fn := fun _ => fun
  | [d1, d2] => { results := [.lit (.bool true)], args := [d1, d2] }
  | _ => none }
def lawS5334AFreshRow : OpenClaim := { program := "ybulkdfle", sum := "63695f7b046c9ee9c59367fc930a8a7c2d90ec183344fa6a8aeda576505dcc87", func := "example.com/kalends/kalends.LawS5334AFresh", spec := "lawS5334AFresh", unfollowed := true, recurses := true, apart := false }
def LawS5334AFreshSaid : Prop := lawS5334AFreshRow.holds Yba.pinned (OpenSpec.ofChange lawS5334AFreshSpec)

/-- ITS FALSE NEIGHBOUR: 'it returns false'. Refute it at one input. -/
def lawS5334AFreshWrong : ChangeSpec := { name := "lawS5334AFresh", fn := fun _ => fun
  | [d1, d2] => { results := [.lit (.bool false)], args := [d1, d2] }
  | _ => none }
def LawS5334AFreshWrongFalsely : Prop := lawS5334AFreshRow.holds Yba.pinned (OpenSpec.ofChange lawS5334AFreshWrong)

/-- 'kalends.LawS5334BExact': WHATEVER THE INPUT: true; the input reads as it did. -/
def lawS5334BExactSpec : ChangeSpec := { name := "lawS5334BExact", fn := fun _ => fun
  | [d1, d2, d3] => { results := [.lit (.bool true)], args := [d1, d2, d3] }
  | _ => none }
def lawS5334BExactRow : OpenClaim := { program := "ybulkdfle", sum := "63695f7b046c9ee9c59367fc930a8a7c2d90ec183344fa6a8aeda576505dcc87", func := "example.com/kalends/kalends.LawS5334BExact", spec := "lawS5334BExact", apart := false }
def LawS5334BExactSaid : Prop := lawS5334BExactRow.holds Yba.pinned (OpenSpec.ofChange lawS5334BExactSpec)

/-- ITS FALSE NEIGHBOUR: 'it returns false'. Refute it at one input. -/
def lawS5334BExactWrong : ChangeSpec := { name := "lawS5334BExact", fn := fun _ => fun
  | [d1, d2, d3] => { results := [.lit (.bool false)], args := [d1, d2, d3] }
  | _ => none }
def LawS5334BExactWrongFalsely : Prop := lawS5334BExactRow.holds Yba.pinned (OpenSpec.ofChange lawS5334BExactWrong)

end Rows
end Go.Proofs.Ybulkdfle
