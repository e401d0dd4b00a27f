/-
  No cell of these rows narrows 'for every input' (looked for: loops, veiled, ifaces, maps, wideKeys, modest, calm, conditions, laid).
  DERIVED. THE GIVEN ROWS OF THIS SEAT. 2 by the template 'for every input the law returns true; each argument reads behind the call as it read before'; 0 by the template 'total and deterministic' (their statements: YbulkdbtwTotals.lean).
  GIVEN WITH THE SEED: the statements are not yours to turn. If you find one false, say at which input.
  Laid BY PROGRAM, IN A SANDBOX (cutbox-rows.mjs): the forced cells as the released guide's own fill.sh prints them over the translation 9444a38915d9176b… (all of the seat's roots in one cut). By AI agents, Wed Nov 11 2026. No macro, syntax, notation, axiom, sorry.
-/
import Derived.Test.YbulkdbtwChecked
import GoSem.Claim
import GoSem.ClaimJoined
import GoSem.ClaimMapViews
import Derived.JoinedTies
import Derived.KernelRfl
namespace Go.Proofs.Ybulkdbtw
/- THE CELL 'sum', in the pinned program and in every row, IS THE sha256 OF THE DUMP (.gsa) THAT YbulkdbtwProg.lean LOADS. Nothing in Lean hashes anything: it is a label: what it is worth is what the hold of that sum in a sandbox is worth. -/
noncomputable def Yba.pinned : Pinned := { name := "ybulkdbtw", sum := "9444a38915d9176b13ccaec66d63da7370c0804dcc1ddcc8410bbca6a390ecdd", checked := Yba.checked }
namespace Rows
def none {H : Type} : Left H := { results := [], args := [] }

/-- 'retry-backoff.LawS5157CSets': WHATEVER THE INPUT: true; the input reads as it did. -/
def lawS5157CSetsSpec : ChangeSpec := { name := "lawS5157CSets", fn := fun _ => fun
  | [d1, d2, d3, d4] => { results := [.lit (.bool true)], args := [d1, d2, d3, d4] }
  | _ => none }
def lawS5157CSetsRow : OpenClaim := { program := "ybulkdbtw", sum := "9444a38915d9176b13ccaec66d63da7370c0804dcc1ddcc8410bbca6a390ecdd", func := "example.com/retry-backoff/retry-backoff.LawS5157CSets", spec := "lawS5157CSets", unfollowed := true, recurses := true, apart := false }
def LawS5157CSetsSaid : Prop := lawS5157CSetsRow.holds Yba.pinned (OpenSpec.ofChange lawS5157CSetsSpec)

/-- ITS FALSE NEIGHBOUR: 'it returns false'. Refute it at one input. -/
def lawS5157CSetsWrong : ChangeSpec := { name := "lawS5157CSets", fn := fun _ => fun
  | [d1, d2, d3, d4] => { results := [.lit (.bool false)], args := [d1, d2, d3, d4] }
  | _ => none }
def LawS5157CSetsWrongFalsely : Prop := lawS5157CSetsRow.holds Yba.pinned (OpenSpec.ofChange lawS5157CSetsWrong)

/-- 'retry-backoff.LawS5157CLater': WHATEVER THE INPUT: true; the input reads as it did. -/
def lawS5157CLaterSpec : ChangeSpec := { name := "lawS5157CLater", fn := fun _ => fun
  | [d1, d2] => { results := [.lit (.bool true)], args := [d1, d2] }
  | _ => none }
def lawS5157CLaterRow : OpenClaim := { program := "ybulkdbtw", sum := "9444a38915d9176b13ccaec66d63da7370c0804dcc1ddcc8410bbca6a390ecdd", func := "example.com/retry-backoff/retry-backoff.LawS5157CLater", spec := "lawS5157CLater", unfollowed := true, recurses := true, apart := false }
def LawS5157CLaterSaid : Prop := lawS5157CLaterRow.holds Yba.pinned (OpenSpec.ofChange lawS5157CLaterSpec)

/-- ITS FALSE NEIGHBOUR: 'it returns false'. Refute it at one input. -/
def lawS5157CLaterWrong : ChangeSpec := { name := "lawS5157CLater", fn := fun _ => fun
  | [d1, d2] => { results := [.lit (.bool false)], args := [d1, d2] }
  | _ => none }
def LawS5157CLaterWrongFalsely : Prop := lawS5157CLaterRow.holds Yba.pinned (OpenSpec.ofChange lawS5157CLaterWrong)

end Rows
end Go.Proofs.Ybulkdbtw
