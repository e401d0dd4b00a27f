/-
  No cell of these rows narrows 'for every input' (looked for: loops, veiled, ifaces, maps, wideKeys, modest, calm, conditions, laid).
  DERIVED. THE GIVEN ROWS OF THIS SEAT. 1 by the template 'for every input the law returns true; each argument reads behind the call as it read before'; 0 by the template 'total and deterministic' (their statements: YbulkdbsuTotals.lean).
  GIVEN WITH THE SEED: the statements are not yours to turn. If you find one false, say at which input.
  Laid BY PROGRAM, IN A SANDBOX (cutbox-rows.mjs): the forced cells as the released guide's own fill.sh prints them over the translation 0e3acbab6212cabb… (all of the seat's roots in one cut). By AI agents, Wed Nov 11 2026. No macro, syntax, notation, axiom, sorry.
-/
import Derived.Test.YbulkdbsuChecked
import GoSem.Claim
import GoSem.ClaimJoined
import GoSem.ClaimMapViews
import Derived.JoinedTies
import Derived.KernelRfl
namespace Go.Proofs.Ybulkdbsu
/- THE CELL 'sum', in the pinned program and in every row, IS THE sha256 OF THE DUMP (.gsa) THAT YbulkdbsuProg.lean LOADS. Nothing in Lean hashes anything: it is a label: what it is worth is what the hold of that sum in a sandbox is worth. -/
noncomputable def Yba.pinned : Pinned := { name := "ybulkdbsu", sum := "0e3acbab6212cabb535d7c1d71d2ce2145f419f7df88296a109a18f99e866a34", checked := Yba.checked }
namespace Rows
def none {H : Type} : Left H := { results := [], args := [] }

/-- 'api.LawS5155BWhole': WHATEVER THE INPUT: true; the input reads as it did. -/
def lawS5155BWholeSpec : ChangeSpec := { name := "lawS5155BWhole", fn := fun _ => fun
  | [d1, d2, d3, d4, d5, d6, d7, d8, d9, d10, d11, d12] => { results := [.lit (.bool true)], args := [d1, d2, d3, d4, d5, d6, d7, d8, d9, d10, d11, d12] }
  | _ => none }
def lawS5155BWholeRow : OpenClaim := { program := "ybulkdbsu", sum := "0e3acbab6212cabb535d7c1d71d2ce2145f419f7df88296a109a18f99e866a34", func := "example.com/callseal/callseal/api.LawS5155BWhole", spec := "lawS5155BWhole", apart := false }
def LawS5155BWholeSaid : Prop := lawS5155BWholeRow.holds Yba.pinned (OpenSpec.ofChange lawS5155BWholeSpec)

/-- ITS FALSE NEIGHBOUR: 'it returns false'. Refute it at one input. -/
def lawS5155BWholeWrong : ChangeSpec := { name := "lawS5155BWhole", fn := fun _ => fun
  | [d1, d2, d3, d4, d5, d6, d7, d8, d9, d10, d11, d12] => { results := [.lit (.bool false)], args := [d1, d2, d3, d4, d5, d6, d7, d8, d9, d10, d11, d12] }
  | _ => none }
def LawS5155BWholeWrongFalsely : Prop := lawS5155BWholeRow.holds Yba.pinned (OpenSpec.ofChange lawS5155BWholeWrong)

end Rows
end Go.Proofs.Ybulkdbsu
