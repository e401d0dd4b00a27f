/-
  DERIVED. GIVEN WITH THE SEED: THE CARDS: each row of YbulkdbsuFmtRows.lean that lists a variable, with what it lists TIED to the program's text (the seventh form; the later family's looks); each row that meets fmt, with fmt's text TOLD by the authors' own Lean function (tested against real Go, not proved from fmt's source: count such statements apart). THE CARD IS WHAT COUNTS. Prove the row's statement (the work); the ties are given (YbulkdbsuFmtTie.lean); close each card by the builder's one call (the guide's Derived/Test/ToyasCard.lean, 'card_holds'). Laid BY PROGRAM, IN A SANDBOX (cutbox-door.mjs). By AI agents, Wed Nov 11 2026. No macro, syntax, notation, axiom, sorry.
-/
import Derived.Test.YbulkdbsuFmtRows
import GoSem.ClaimSeven
namespace Go.Proofs.YbulkdbsuFmt
namespace Rows

/-- THE TOLD AND TIED CARD OF 'rcd.LawS5155AOnce'. -/
def lawS5155AOnceCard : Claim7 := { stood := { row := lawS5155AOnceRow, standIns := [], harness := (true, "9064e5b6a314044d1e386109639c4565b88253268d62987f828a0d2a9a48225b"), looks := true }, told := true, laidByText := true, laidKinds := [.sentinel], laidTests := true, laidLooks := .later, goes := false }
def LawS5155AOnceToldSaid : Prop := Claim7.holds Ybaf.pinned (.plain (OpenSpec.ofChange lawS5155AOnceSpec)) lawS5155AOnceCard
/-- ITS FALSE NEIGHBOUR. Refute it at one input. -/
def LawS5155AOnceToldWrongFalsely : Prop := Claim7.holds Ybaf.pinned (.plain (OpenSpec.ofChange lawS5155AOnceWrong)) lawS5155AOnceCard
end Rows
end Go.Proofs.YbulkdbsuFmt
