/-
  No cell of these rows narrows 'for every input' (looked for: loops, veiled, ifaces, maps, wideKeys, modest, calm, conditions, laid).
  DERIVED. THE GIVEN ROWS OF THIS SEAT. 2 by the template 'for every input the law returns true; each argument reads behind the call as it read before'; 0 by the template 'total and deterministic' (their statements: YbulkdfkqTotals.lean).
  GIVEN WITH THE SEED: the statements are not yours to turn. If you find one false, say at which input.
  Laid BY PROGRAM, IN A SANDBOX (cutbox-rows.mjs): the forced cells as the released guide's own fill.sh prints them over the translation 3ae58f20dd461772… (all of the seat's roots in one cut). By AI agents, Wed Nov 11 2026. No macro, syntax, notation, axiom, sorry.
-/
import Derived.Test.YbulkdfkqChecked
import GoSem.Claim
import GoSem.ClaimJoined
import GoSem.ClaimMapViews
import Derived.JoinedTies
import Derived.KernelRfl
namespace Go.Proofs.Ybulkdfkq
/- THE CELL 'sum', in the pinned program and in every row, IS THE sha256 OF THE DUMP (.gsa) THAT YbulkdfkqProg.lean LOADS. Nothing in Lean hashes anything: it is a label: what it is worth is what the hold of that sum in a sandbox is worth. -/
noncomputable def Yba.pinned : Pinned := { name := "ybulkdfkq", sum := "3ae58f20dd4617728bfc8ed8aec6ad7cacd888a6154071684f2e8a9f9e894416", checked := Yba.checked }
namespace Rows
def none {H : Type} : Left H := { results := [], args := [] }

/-- 'rrsigil.LawS5333CExact': WHATEVER THE INPUT: true; the input reads as it did. -/
def lawS5333CExactSpec : ChangeSpec := { name := "lawS5333CExact", fn := fun _ => fun
  | [d] => { results := [.lit (.bool true)], args := [d] }
  | _ => none }
def lawS5333CExactRow : OpenClaim := { program := "ybulkdfkq", sum := "3ae58f20dd4617728bfc8ed8aec6ad7cacd888a6154071684f2e8a9f9e894416", func := "example.com/rrsigil/rrsigil.LawS5333CExact", spec := "lawS5333CExact", apart := false }
def LawS5333CExactSaid : Prop := lawS5333CExactRow.holds Yba.pinned (OpenSpec.ofChange lawS5333CExactSpec)

/-- ITS FALSE NEIGHBOUR: 'it returns false'. Refute it at one input. -/
def lawS5333CExactWrong : ChangeSpec := { name := "lawS5333CExact", fn := fun _ => fun
  | [d] => { results := [.lit (.bool false)], args := [d] }
  | _ => none }
def LawS5333CExactWrongFalsely : Prop := lawS5333CExactRow.holds Yba.pinned (OpenSpec.ofChange lawS5333CExactWrong)

/-- 'rrsigil.LawS5333CIdem': WHATEVER THE INPUT: true; the input reads as it did. -/
def lawS5333CIdemSpec : ChangeSpec := { name := "lawS5333CIdem", fn := fun _ => fun
  | [d] => { results := [.lit (.bool true)], args := [d] }
  | _ => none }
def lawS5333CIdemRow : OpenClaim := { program := "ybulkdfkq", sum := "3ae58f20dd4617728bfc8ed8aec6ad7cacd888a6154071684f2e8a9f9e894416", func := "example.com/rrsigil/rrsigil.LawS5333CIdem", spec := "lawS5333CIdem", apart := false }
def LawS5333CIdemSaid : Prop := lawS5333CIdemRow.holds Yba.pinned (OpenSpec.ofChange lawS5333CIdemSpec)

/-- ITS FALSE NEIGHBOUR: 'it returns false'. Refute it at one input. -/
def lawS5333CIdemWrong : ChangeSpec := { name := "lawS5333CIdem", fn := fun _ => fun
  | [d] => { results := [.lit (.bool false)], args := [d] }
  | _ => none }
def LawS5333CIdemWrongFalsely : Prop := lawS5333CIdemRow.holds Yba.pinned (OpenSpec.ofChange lawS5333CIdemWrong)

end Rows
end Go.Proofs.Ybulkdfkq
