/-
  DERIVED. GIVEN WITH THE SEED: THE CARDS: each row of YbulkcufiFmtRows.lean that lists a variable, with what it lists TIED to the program's text (the seventh form; the later family's looks); each row that meets fmt, with fmt's text TOLD by the authors' own Lean function (tested against real Go, not proved from fmt's source: count such statements apart). THE CARD IS WHAT COUNTS. Prove the row's statement (the work); the ties are given (YbulkcufiFmtTie.lean); close each card by the builder's one call (the guide's Derived/Test/ToyasCard.lean, 'card_holds'). Laid BY PROGRAM, IN A SANDBOX (cutbox-door.mjs). By AI agents, Wed Nov 11 2026. No macro, syntax, notation, axiom, sorry.
-/
import Derived.Test.YbulkcufiFmtRows
import GoSem.ClaimSeven
namespace Go.Proofs.YbulkcufiFmt
namespace Rows

/-- THE TOLD AND TIED CARD OF 'cairn.LawS4792AReject'. -/
def lawS4792ARejectCard : Claim7 := { stood := { row := lawS4792ARejectRow, standIns := [], harness := (true, "4833f01b10ec35313064a8974b9f2c35ac951c8d6337a773e2324c036eb8820b"), looks := true }, told := true, laidByText := true, laidKinds := [.handle, .sentinel, .sentinel, .sentinel, .sentinel, .sentinel], laidTests := true, laidLooks := .later, goes := false }
def LawS4792ARejectToldSaid : Prop := Claim7.holds Ybaf.pinned (.plain (OpenSpec.ofChange lawS4792ARejectSpec)) lawS4792ARejectCard
/-- ITS FALSE NEIGHBOUR. Refute it at one input. -/
def LawS4792ARejectToldWrongFalsely : Prop := Claim7.holds Ybaf.pinned (.plain (OpenSpec.ofChange lawS4792ARejectWrong)) lawS4792ARejectCard
end Rows
end Go.Proofs.YbulkcufiFmt
