/-
  No cell of these rows narrows 'for every input' (looked for: loops, veiled, ifaces, maps, wideKeys, modest, calm, conditions, laid).
  DERIVED. THE GIVEN ROWS OF THIS SEAT. 1 by the template 'for every input the law returns true; each argument reads behind the call as it read before'; 0 by the template 'total and deterministic' (their statements: YbulkdmjaTotals.lean).
  GIVEN WITH THE SEED: the statements are not yours to turn. If you find one false, say at which input.
  Laid BY PROGRAM, IN A SANDBOX (cutbox-rows.mjs): the forced cells as the released guide's own fill.sh prints them over the translation 0c080484df3a2cce… (all of the seat's roots in one cut). By AI agents, Wed Nov 11 2026. No macro, syntax, notation, axiom, sorry.
-/
import Derived.Test.YbulkdmjaChecked
import GoSem.Claim
import GoSem.ClaimJoined
import GoSem.ClaimMapViews
import Derived.JoinedTies
import Derived.KernelRfl
namespace Go.Proofs.Ybulkdmja
/- THE CELL 'sum', in the pinned program and in every row, IS THE sha256 OF THE DUMP (.gsa) THAT YbulkdmjaProg.lean LOADS. Nothing in Lean hashes anything: it is a label: what it is worth is what the hold of that sum in a sandbox is worth. -/
noncomputable def Yba.pinned : Pinned := { name := "ybulkdmja", sum := "0c080484df3a2ccea5d391d5e9ae3043425f4c54004077e8a317c4ded840ed18", checked := Yba.checked }
namespace Rows
def none {H : Type} : Left H := { results := [], args := [] }

/-- 'api.LawS5668BWhole': WHATEVER THE INPUT: true; the input reads as it did. -/
def lawS5668BWholeSpec : ChangeSpec := { name := "lawS5668BWhole", fn := fun _ => fun
  | [d1, d2, d3, d4, d5, d6, d7] => { results := [.lit (.bool true)], args := [d1, d2, d3, d4, d5, d6, d7] }
  | _ => none }
def lawS5668BWholeRow : OpenClaim := { program := "ybulkdmja", sum := "0c080484df3a2ccea5d391d5e9ae3043425f4c54004077e8a317c4ded840ed18", func := "example.com/foldmarshal/foldmarshal/api.LawS5668BWhole", spec := "lawS5668BWhole", apart := false }
def LawS5668BWholeSaid : Prop := lawS5668BWholeRow.holds Yba.pinned (OpenSpec.ofChange lawS5668BWholeSpec)

/-- ITS FALSE NEIGHBOUR: 'it returns false'. Refute it at one input. -/
def lawS5668BWholeWrong : ChangeSpec := { name := "lawS5668BWhole", fn := fun _ => fun
  | [d1, d2, d3, d4, d5, d6, d7] => { results := [.lit (.bool false)], args := [d1, d2, d3, d4, d5, d6, d7] }
  | _ => none }
def LawS5668BWholeWrongFalsely : Prop := lawS5668BWholeRow.holds Yba.pinned (OpenSpec.ofChange lawS5668BWholeWrong)

end Rows
end Go.Proofs.Ybulkdmja
