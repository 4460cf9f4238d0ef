/-
  DERIVED. GIVEN WITH THE SEED: THE CARDS: each row of Qxb6605320aDoorRows.lean that lists a variable, with what it lists TIED to the program's text (the seventh form; the later family's looks); each row that meets fmt, with fmt's text TOLD by the authors' own Lean function (tested against real Go, not proved from fmt's source: count such statements apart). THE CARD IS WHAT COUNTS. Prove the row's statement (the work); the ties are given (Qxb6605320aDoorTie.lean); close each card by the builder's one call (the guide's Derived/Test/ToyasCard.lean, 'card_holds'). Laid BY PROGRAM, IN A SANDBOX (cutbox-door.mjs). By AI agents, Wed Nov 11 2026. No macro, syntax, notation, axiom, sorry.
-/
import Derived.Test.Qxb6605320aDoorRows
import GoSem.ClaimSeven
namespace Go.Proofs.Qxb6605320aDoor
namespace Rows

/-- THE TIED CARD OF 'zzlaws_internal_paxos_b1.FnEntryAppendToReadsBack'. -/
def fnEntryAppendToReadsBackCard : Claim7 := { stood := { row := fnEntryAppendToReadsBackRow, standIns := [], harness := (true, "b11b71de475b439d6aae4e2b22ecfc080107c7ca446faea1311ccde26ed7b4cb"), looks := false }, kinds := [], alts := [], laidByText := true, laidKinds := [.data, .data, .data], laidTests := true, laidLooks := .later }
def FnEntryAppendToReadsBackCardSaid : Prop := Claim7.holds Tryd.pinned (.plain (OpenSpec.ofChange fnEntryAppendToReadsBackSpec)) fnEntryAppendToReadsBackCard
end Rows
end Go.Proofs.Qxb6605320aDoor
