/-
  No cell of these rows narrows 'for every input' (looked for: loops, veiled, ifaces, maps, wideKeys, modest, calm, conditions, laid).
  DERIVED. THE GIVEN ROWS OF THIS SEAT. 3 by the template 'for every input the law returns true; each argument reads behind the call as it read before'; 0 by the template 'total and deterministic' (their statements: YbulkdbpaTotals.lean).
  GIVEN WITH THE SEED: the statements are not yours to turn. If you find one false, say at which input.
  Laid BY PROGRAM, IN A SANDBOX (cutbox-rows.mjs): the forced cells as the released guide's own fill.sh prints them over the translation b998063dcb4c604e… (all of the seat's roots in one cut). By AI agents, Wed Nov 11 2026. No macro, syntax, notation, axiom, sorry.
-/
import Derived.Test.YbulkdbpaChecked
import GoSem.Claim
import GoSem.ClaimJoined
import GoSem.ClaimMapViews
import Derived.JoinedTies
import Derived.KernelRfl
namespace Go.Proofs.Ybulkdbpa
/- THE CELL 'sum', in the pinned program and in every row, IS THE sha256 OF THE DUMP (.gsa) THAT YbulkdbpaProg.lean LOADS. Nothing in Lean hashes anything: it is a label: what it is worth is what the hold of that sum in a sandbox is worth. -/
noncomputable def Yba.pinned : Pinned := { name := "ybulkdbpa", sum := "b998063dcb4c604e396265712805f810363103efa992df92ece22e599c8734fb", checked := Yba.checked }
namespace Rows
def none {H : Type} : Left H := { results := [], args := [] }

/-- 'game.LawS5148AModel': WHATEVER THE INPUT: true; the input reads as it did. -/
def lawS5148AModelSpec : ChangeSpec := { name := "lawS5148AModel", fn := fun _ => fun
  | [d1, d2] => { results := [.lit (.bool true)], args := [d1, d2] }
  | _ => none }
def lawS5148AModelRow : OpenClaim := { program := "ybulkdbpa", sum := "b998063dcb4c604e396265712805f810363103efa992df92ece22e599c8734fb", func := "example.com/meshloom/meshloom/internal/game.LawS5148AModel", spec := "lawS5148AModel", plainKeys := false, apart := false }
def LawS5148AModelSaid : Prop := lawS5148AModelRow.holds Yba.pinned (OpenSpec.ofChange lawS5148AModelSpec)

/-- ITS FALSE NEIGHBOUR: 'it returns false'. Refute it at one input. -/
def lawS5148AModelWrong : ChangeSpec := { name := "lawS5148AModel", fn := fun _ => fun
  | [d1, d2] => { results := [.lit (.bool false)], args := [d1, d2] }
  | _ => none }
def LawS5148AModelWrongFalsely : Prop := lawS5148AModelRow.holds Yba.pinned (OpenSpec.ofChange lawS5148AModelWrong)

/-- 'overlay.LawS5148CAppends': WHATEVER THE INPUT: true; the input reads as it did. -/
def lawS5148CAppendsSpec : ChangeSpec := { name := "lawS5148CAppends", fn := fun _ => fun
  | [d1, d2, d3, d4] => { results := [.lit (.bool true)], args := [d1, d2, d3, d4] }
  | _ => none }
def lawS5148CAppendsRow : OpenClaim := { program := "ybulkdbpa", sum := "b998063dcb4c604e396265712805f810363103efa992df92ece22e599c8734fb", func := "example.com/meshloom/meshloom/internal/overlay.LawS5148CAppends", spec := "lawS5148CAppends", plainKeys := false, apart := false }
def LawS5148CAppendsSaid : Prop := lawS5148CAppendsRow.holds Yba.pinned (OpenSpec.ofChange lawS5148CAppendsSpec)

/-- ITS FALSE NEIGHBOUR: 'it returns false'. Refute it at one input. -/
def lawS5148CAppendsWrong : ChangeSpec := { name := "lawS5148CAppends", fn := fun _ => fun
  | [d1, d2, d3, d4] => { results := [.lit (.bool false)], args := [d1, d2, d3, d4] }
  | _ => none }
def LawS5148CAppendsWrongFalsely : Prop := lawS5148CAppendsRow.holds Yba.pinned (OpenSpec.ofChange lawS5148CAppendsWrong)

/-- 'overlay.LawS5148CTwice': WHATEVER THE INPUT: true; the input reads as it did. -/
def lawS5148CTwiceSpec : ChangeSpec := { name := "lawS5148CTwice", fn := fun _ => fun
  | [d1, d2, d3, d4] => { results := [.lit (.bool true)], args := [d1, d2, d3, d4] }
  | _ => none }
def lawS5148CTwiceRow : OpenClaim := { program := "ybulkdbpa", sum := "b998063dcb4c604e396265712805f810363103efa992df92ece22e599c8734fb", func := "example.com/meshloom/meshloom/internal/overlay.LawS5148CTwice", spec := "lawS5148CTwice", plainKeys := false, apart := false }
def LawS5148CTwiceSaid : Prop := lawS5148CTwiceRow.holds Yba.pinned (OpenSpec.ofChange lawS5148CTwiceSpec)

/-- ITS FALSE NEIGHBOUR: 'it returns false'. Refute it at one input. -/
def lawS5148CTwiceWrong : ChangeSpec := { name := "lawS5148CTwice", fn := fun _ => fun
  | [d1, d2, d3, d4] => { results := [.lit (.bool false)], args := [d1, d2, d3, d4] }
  | _ => none }
def LawS5148CTwiceWrongFalsely : Prop := lawS5148CTwiceRow.holds Yba.pinned (OpenSpec.ofChange lawS5148CTwiceWrong)

end Rows
end Go.Proofs.Ybulkdbpa
