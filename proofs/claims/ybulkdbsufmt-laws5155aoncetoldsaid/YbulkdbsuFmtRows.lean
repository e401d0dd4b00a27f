/-
  NARROWER THAN 'FOR EVERY INPUT', by the rows' own cells (each row's printed sentence says how): LawS5155AOnce: ifaces, laid.
  DERIVED. THE GIVEN ROWS OF THIS SEAT. 1 by the template 'for every input the law returns true; each argument reads behind the call as it read before'; 0 by the template 'total and deterministic' (their statements: YbulkdbsuFmtTotals.lean).
  GIVEN WITH THE SEED: the statements are not yours to turn. If you find one false, say at which input.
  Laid BY PROGRAM, IN A SANDBOX (cutbox-rows.mjs): the forced cells as the released guide's own fill.sh prints them over the translation 931e368fddaf2ad1… (all of the seat's roots in one cut). By AI agents, Wed Nov 11 2026. No macro, syntax, notation, axiom, sorry.
-/
import Derived.Test.YbulkdbsuFmtChecked
import GoSem.Claim
import GoSem.ClaimJoined
import GoSem.ClaimMapViews
import Derived.JoinedTies
import Derived.KernelRfl
namespace Go.Proofs.YbulkdbsuFmt
/- THE CELL 'sum', in the pinned program and in every row, IS THE sha256 OF THE DUMP (.gsa) THAT YbulkdbsuFmtProg.lean LOADS. Nothing in Lean hashes anything: it is a label: what it is worth is what the hold of that sum in a sandbox is worth. -/
noncomputable def Ybaf.pinned : Pinned := { name := "ybulkdbsufmt", sum := "931e368fddaf2ad1ca2fdd541d26ef3ab13c609a7418cfb529571387a9a65698", checked := Ybaf.checked }
namespace Rows
def none {H : Type} : Left H := { results := [], args := [] }

/- WHAT THE LISTED PACKAGE-LEVEL VARIABLES READ AS WHEN THE CALL BEGINS. Each datum BY PROGRAM (the guide's laid-datum.mjs) off the statement by which the dump's own 'gosem.cut.vars' lays the variable. In a bare row this is a premise. The card (YbulkdbsuFmtCards.lean) ties it to the program's text. -/
def laid_example_com_callseal_callseal_rcd_errNotFetched {H : Type} : DataW H := .iface "*errors.errorString" (.ptr (.agg [.lit (.string [99, 97, 110, 110, 111, 116, 32, 102, 101, 116, 99, 104])]))

/-- 'rcd.LawS5155AOnce': WHATEVER THE INPUT: true; the input reads as it did. -/
def lawS5155AOnceSpec : ChangeSpec := { name := "lawS5155AOnce", vars := ["example.com/callseal/callseal/rcd.errNotFetched"], fn := fun _ => fun
  | [d1, d2, g1] => { results := [.lit (.bool true)], args := [d1, d2], vars := [g1] }
  | _ => none }
def lawS5155AOnceRow : OpenClaim := { program := "ybulkdbsufmt", sum := "931e368fddaf2ad1ca2fdd541d26ef3ab13c609a7418cfb529571387a9a65698", func := "example.com/callseal/callseal/rcd.LawS5155AOnce", spec := "lawS5155AOnce", stops := ["fmt.errorf"], inPlace := ["internal/reflectlite.TypeOf", "fmt.errorf"], unfollowed := true, recurses := true, named := ["example.com/callseal/callseal/rcd.errNotFetched"], ifaces := true, apart := false, laid := [("example.com/callseal/callseal/rcd.errNotFetched", laid_example_com_callseal_callseal_rcd_errNotFetched)] }
/-- NO THEOREM (fmt's text is open here; it may be false): for the released tool's asking of the row's closed facts alone. THE STATEMENT IS 'LawS5155AOnceToldSaid' (YbulkdbsuFmtCards.lean). -/
def LawS5155AOnceFormAsk : Prop := lawS5155AOnceRow.holds Ybaf.pinned (OpenSpec.ofChange lawS5155AOnceSpec)

/-- ITS FALSE NEIGHBOUR: 'it returns false'. Refute it at one input. -/
def lawS5155AOnceWrong : ChangeSpec := { name := "lawS5155AOnce", vars := ["example.com/callseal/callseal/rcd.errNotFetched"], fn := fun _ => fun
  | [d1, d2, g1] => { results := [.lit (.bool false)], args := [d1, d2], vars := [g1] }
  | _ => none }
def LawS5155AOnceWrongFormAsk : Prop := lawS5155AOnceRow.holds Ybaf.pinned (OpenSpec.ofChange lawS5155AOnceWrong)

end Rows
end Go.Proofs.YbulkdbsuFmt
