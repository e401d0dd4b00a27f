/-
  No cell of these rows narrows 'for every input' (looked for: loops, veiled, ifaces, maps, wideKeys, modest, calm, conditions, laid).
  DERIVED. THE GIVEN ROWS OF THIS SEAT. 2 by the template 'for every input the law returns true; each argument reads behind the call as it read before'; 0 by the template 'total and deterministic' (their statements: YbulkdbrsTotals.lean).
  GIVEN WITH THE SEED: the statements are not yours to turn. If you find one false, say at which input.
  Laid BY PROGRAM, IN A SANDBOX (cutbox-rows.mjs): the forced cells as the released guide's own fill.sh prints them over the translation 732b3ad6b1426bb2… (all of the seat's roots in one cut). By AI agents, Wed Nov 11 2026. No macro, syntax, notation, axiom, sorry.
-/
import Derived.Test.YbulkdbrsChecked
import GoSem.Claim
import GoSem.ClaimJoined
import GoSem.ClaimMapViews
import Derived.JoinedTies
import Derived.KernelRfl
namespace Go.Proofs.Ybulkdbrs
/- THE CELL 'sum', in the pinned program and in every row, IS THE sha256 OF THE DUMP (.gsa) THAT YbulkdbrsProg.lean LOADS. Nothing in Lean hashes anything: it is a label: what it is worth is what the hold of that sum in a sandbox is worth. -/
noncomputable def Yba.pinned : Pinned := { name := "ybulkdbrs", sum := "732b3ad6b1426bb296cd711305d6d67ef5660600211f7e67fab984fcf5f98ac2", checked := Yba.checked }
namespace Rows
def none {H : Type} : Left H := { results := [], args := [] }

/-- 'lachesis.LawS5153CLast': WHATEVER THE INPUT: true; the input reads as it did. -/
def lawS5153CLastSpec : ChangeSpec := { name := "lawS5153CLast", fn := fun _ => fun
  | [d1, d2, d3, d4, d5] => { results := [.lit (.bool true)], args := [d1, d2, d3, d4, d5] }
  | _ => none }
def lawS5153CLastRow : OpenClaim := { program := "ybulkdbrs", sum := "732b3ad6b1426bb296cd711305d6d67ef5660600211f7e67fab984fcf5f98ac2", func := "example.com/lachesis/lachesis.LawS5153CLast", spec := "lawS5153CLast", apart := false }
def LawS5153CLastSaid : Prop := lawS5153CLastRow.holds Yba.pinned (OpenSpec.ofChange lawS5153CLastSpec)

/-- ITS FALSE NEIGHBOUR: 'it returns false'. Refute it at one input. -/
def lawS5153CLastWrong : ChangeSpec := { name := "lawS5153CLast", fn := fun _ => fun
  | [d1, d2, d3, d4, d5] => { results := [.lit (.bool false)], args := [d1, d2, d3, d4, d5] }
  | _ => none }
def LawS5153CLastWrongFalsely : Prop := lawS5153CLastRow.holds Yba.pinned (OpenSpec.ofChange lawS5153CLastWrong)

/-- 'lachesis.LawS5153CZero': WHATEVER THE INPUT: true; the input reads as it did. -/
def lawS5153CZeroSpec : ChangeSpec := { name := "lawS5153CZero", fn := fun _ => fun
  | [d1, d2, d3] => { results := [.lit (.bool true)], args := [d1, d2, d3] }
  | _ => none }
def lawS5153CZeroRow : OpenClaim := { program := "ybulkdbrs", sum := "732b3ad6b1426bb296cd711305d6d67ef5660600211f7e67fab984fcf5f98ac2", func := "example.com/lachesis/lachesis.LawS5153CZero", spec := "lawS5153CZero", apart := false }
def LawS5153CZeroSaid : Prop := lawS5153CZeroRow.holds Yba.pinned (OpenSpec.ofChange lawS5153CZeroSpec)

/-- ITS FALSE NEIGHBOUR: 'it returns false'. Refute it at one input. -/
def lawS5153CZeroWrong : ChangeSpec := { name := "lawS5153CZero", fn := fun _ => fun
  | [d1, d2, d3] => { results := [.lit (.bool false)], args := [d1, d2, d3] }
  | _ => none }
def LawS5153CZeroWrongFalsely : Prop := lawS5153CZeroRow.holds Yba.pinned (OpenSpec.ofChange lawS5153CZeroWrong)

end Rows
end Go.Proofs.Ybulkdbrs
