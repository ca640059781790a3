/-
  No cell of these rows narrows 'for every input' (looked for: loops, veiled, ifaces, maps, wideKeys, modest, calm, conditions, laid).
  DERIVED. THE GIVEN ROWS OF THIS SEAT. 1 by the template 'for every input the law returns true; each argument reads behind the call as it read before'; 0 by the template 'total and deterministic' (their statements: YbulkdmjoTotals.lean).
  GIVEN WITH THE SEED: the statements are not yours to turn. If you find one false, say at which input.
  Laid BY PROGRAM, IN A SANDBOX (cutbox-rows.mjs): the forced cells as the released guide's own fill.sh prints them over the translation dd0ba678b90be47a… (all of the seat's roots in one cut). By AI agents, Wed Nov 11 2026. No macro, syntax, notation, axiom, sorry.
-/
import Derived.Test.YbulkdmjoChecked
import GoSem.Claim
import GoSem.ClaimJoined
import GoSem.ClaimMapViews
import Derived.JoinedTies
import Derived.KernelRfl
namespace Go.Proofs.Ybulkdmjo
/- THE CELL 'sum', in the pinned program and in every row, IS THE sha256 OF THE DUMP (.gsa) THAT YbulkdmjoProg.lean LOADS. Nothing in Lean hashes anything: it is a label: what it is worth is what the hold of that sum in a sandbox is worth. -/
noncomputable def Yba.pinned : Pinned := { name := "ybulkdmjo", sum := "dd0ba678b90be47a8ff3dbf2d0a1809e45299ce02e69ca0180dd8596a60fb576", checked := Yba.checked }
namespace Rows
def none {H : Type} : Left H := { results := [], args := [] }

/-- 'literal.LawS5669BWhole': WHATEVER THE INPUT: true; the input reads as it did. -/
def lawS5669BWholeSpec : ChangeSpec := { name := "lawS5669BWhole", fn := fun _ => fun
  | [d1, d2] => { results := [.lit (.bool true)], args := [d1, d2] }
  | _ => none }
def lawS5669BWholeRow : OpenClaim := { program := "ybulkdmjo", sum := "dd0ba678b90be47a8ff3dbf2d0a1809e45299ce02e69ca0180dd8596a60fb576", func := "example.com/tokenloom/tokenloom/internal/literal.LawS5669BWhole", spec := "lawS5669BWhole", apart := false }
def LawS5669BWholeSaid : Prop := lawS5669BWholeRow.holds Yba.pinned (OpenSpec.ofChange lawS5669BWholeSpec)

/-- ITS FALSE NEIGHBOUR: 'it returns false'. Refute it at one input. -/
def lawS5669BWholeWrong : ChangeSpec := { name := "lawS5669BWhole", fn := fun _ => fun
  | [d1, d2] => { results := [.lit (.bool false)], args := [d1, d2] }
  | _ => none }
def LawS5669BWholeWrongFalsely : Prop := lawS5669BWholeRow.holds Yba.pinned (OpenSpec.ofChange lawS5669BWholeWrong)

end Rows
end Go.Proofs.Ybulkdmjo
