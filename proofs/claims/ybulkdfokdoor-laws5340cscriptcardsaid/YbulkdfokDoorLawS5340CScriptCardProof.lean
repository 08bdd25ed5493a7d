/- The proof of the tied card 'Rows.LawS5340CScriptCardSaid': the row, closed by the builder's one call. -/
import Derived.Test.YbulkdfokDoorLawS5340CScriptProof
import Derived.Test.YbulkdfokDoorTie
import Derived.Test.YbulkdfokDoorCards
import Derived.SevenTiedAt
namespace Go.Proofs.YbulkdfokDoor.lawS5340CScriptCard
open Go

theorem standIn22 : Ybad.prog.wantsStandIn 22 = false := by kernel_rfl
theorem standIn4 : Ybad.prog.wantsStandIn 4 = false := by kernel_rfl
theorem named3 : Ybad.prog.funcNamed Rows.lawS5340CScriptRow.func = some 3 := by kernel_rfl

theorem params_ok (j : Nat) (t : TypeId) (ht : Ybad.f3.params[j]? = some t) : Ybad.prog.wantsStandIn t = false := by
  rw [Ybad.params3] at ht
  have h : t = 22 ∨ t = 4 := by
    rcases j with _ | _ | _ | _ | _ | j
    · exact .inl (by simpa using ht.symm)
    · exact .inl (by simpa using ht.symm)
    · exact .inl (by simpa using ht.symm)
    · exact .inr (by simpa using ht.symm)
    · exact .inr (by simpa using ht.symm)
    · simp at ht
  rcases h with rfl | rfl
  · exact standIn22
  · exact standIn4

/-- ████ THE STATEMENT ████ -/
theorem proved : Rows.LawS5340CScriptCardSaid :=
  Claim7.holds_tied_plain_at .later [] [.sentinel] true (true, "a91fe9aecf180bf5154de024dc1f2d6eff43a8617bf2e8133be9abd179aa481b") true
    lawS5340CScript.row_holds (fun _ h => by cases h) (by kernel_rfl) (fun _ h => by cases h) lawS5340CScript_row_tie rfl ⟨rfl, rfl⟩ (by kernel_rfl) rfl
    (fun f fn hf hfn => by
      obtain rfl : f = 3 := Option.some.inj (named3.symm.trans hf) |>.symm
      obtain rfl : fn = Ybad.f3 := (Option.some.inj (Ybad.func3.symm.trans hfn)).symm
      exact ⟨by kernel_rfl, fun j t ht => params_ok j t ht⟩)
    (by kernel_rfl)
#print axioms proved
end Go.Proofs.YbulkdfokDoor.lawS5340CScriptCard
