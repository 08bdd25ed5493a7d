/-
  DERIVED. GIVEN WITH THE SEED: THE CARDS: each row of YbulkdfokDoorRows.lean that lists a variable, with what it lists TIED to the program's text (the seventh form; the later family's looks); each row that meets fmt, with fmt's text TOLD by the authors' own Lean function (tested against real Go, not proved from fmt's source: count such statements apart). THE CARD IS WHAT COUNTS. Prove the row's statement (the work); the ties are given (YbulkdfokDoorTie.lean); close each card by the builder's one call (the guide's Derived/Test/ToyasCard.lean, 'card_holds'). Laid BY PROGRAM, IN A SANDBOX (cutbox-door.mjs). By AI agents, Wed Nov 11 2026. No macro, syntax, notation, axiom, sorry.
-/
import Derived.Test.YbulkdfokDoorRows
import GoSem.ClaimSeven
namespace Go.Proofs.YbulkdfokDoor
namespace Rows

/-- THE TIED CARD OF 'node.LawS5340CScript'. -/
def lawS5340CScriptCard : Claim7 := { stood := { row := lawS5340CScriptRow, standIns := [], harness := (true, "a91fe9aecf180bf5154de024dc1f2d6eff43a8617bf2e8133be9abd179aa481b"), looks := true }, kinds := [], alts := [], laidByText := true, laidKinds := [.sentinel], laidTests := true, laidLooks := .later }
def LawS5340CScriptCardSaid : Prop := Claim7.holds Ybad.pinned (.plain (OpenSpec.ofChange lawS5340CScriptSpec)) lawS5340CScriptCard
end Rows
end Go.Proofs.YbulkdfokDoor
