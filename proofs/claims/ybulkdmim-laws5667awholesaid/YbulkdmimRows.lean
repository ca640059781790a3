/-
  No cell of these rows narrows 'for every input' (looked for: loops, veiled, ifaces, maps, wideKeys, modest, calm, conditions, laid).
  DERIVED. THE GIVEN ROWS OF THIS SEAT. 2 by the template 'for every input the law returns true; each argument reads behind the call as it read before'; 0 by the template 'total and deterministic' (their statements: YbulkdmimTotals.lean).
  GIVEN WITH THE SEED: the statements are not yours to turn. If you find one false, say at which input.
  Laid BY PROGRAM, IN A SANDBOX (cutbox-rows.mjs): the forced cells as the released guide's own fill.sh prints them over the translation aeccb74ed3061680… (all of the seat's roots in one cut). By AI agents, Wed Nov 11 2026. No macro, syntax, notation, axiom, sorry.
-/
import Derived.Test.YbulkdmimChecked
import GoSem.Claim
import GoSem.ClaimJoined
import GoSem.ClaimMapViews
import Derived.JoinedTies
import Derived.KernelRfl
namespace Go.Proofs.Ybulkdmim
/- THE CELL 'sum', in the pinned program and in every row, IS THE sha256 OF THE DUMP (.gsa) THAT YbulkdmimProg.lean LOADS. Nothing in Lean hashes anything: it is a label: what it is worth is what the hold of that sum in a sandbox is worth. -/
noncomputable def Yba.pinned : Pinned := { name := "ybulkdmim", sum := "aeccb74ed306168088007487edbe690f8f3a454f78532791af920dd41e5abedf", checked := Yba.checked }
namespace Rows
def none {H : Type} : Left H := { results := [], args := [] }

/-- 'queue.LawS5667AWhole': WHATEVER THE INPUT: true; the input reads as it did. -/
def lawS5667AWholeSpec : ChangeSpec := { name := "lawS5667AWhole", fn := fun _ => fun
  | [d1, d2, d3] => { results := [.lit (.bool true)], args := [d1, d2, d3] }
  | _ => none }
def lawS5667AWholeRow : OpenClaim := { program := "ybulkdmim", sum := "aeccb74ed306168088007487edbe690f8f3a454f78532791af920dd41e5abedf", func := "example.com/sliceway/sliceway/queue.LawS5667AWhole", spec := "lawS5667AWhole", unfollowed := true, recurses := true, apart := false }
def LawS5667AWholeSaid : Prop := lawS5667AWholeRow.holds Yba.pinned (OpenSpec.ofChange lawS5667AWholeSpec)

/-- ITS FALSE NEIGHBOUR: 'it returns false'. Refute it at one input. -/
def lawS5667AWholeWrong : ChangeSpec := { name := "lawS5667AWhole", fn := fun _ => fun
  | [d1, d2, d3] => { results := [.lit (.bool false)], args := [d1, d2, d3] }
  | _ => none }
def LawS5667AWholeWrongFalsely : Prop := lawS5667AWholeRow.holds Yba.pinned (OpenSpec.ofChange lawS5667AWholeWrong)

/-- 'router.LawS5667BWhole': WHATEVER THE INPUT: true; the input reads as it did. -/
def lawS5667BWholeSpec : ChangeSpec := { name := "lawS5667BWhole", fn := fun _ => fun
  | [d1, d2, d3, d4, d5, d6] => { results := [.lit (.bool true)], args := [d1, d2, d3, d4, d5, d6] }
  | _ => none }
def lawS5667BWholeRow : OpenClaim := { program := "ybulkdmim", sum := "aeccb74ed306168088007487edbe690f8f3a454f78532791af920dd41e5abedf", func := "example.com/sliceway/sliceway/router.LawS5667BWhole", spec := "lawS5667BWhole", unfollowed := true, recurses := true, apart := false }
def LawS5667BWholeSaid : Prop := lawS5667BWholeRow.holds Yba.pinned (OpenSpec.ofChange lawS5667BWholeSpec)

/-- ITS FALSE NEIGHBOUR: 'it returns false'. Refute it at one input. -/
def lawS5667BWholeWrong : ChangeSpec := { name := "lawS5667BWhole", fn := fun _ => fun
  | [d1, d2, d3, d4, d5, d6] => { results := [.lit (.bool false)], args := [d1, d2, d3, d4, d5, d6] }
  | _ => none }
def LawS5667BWholeWrongFalsely : Prop := lawS5667BWholeRow.holds Yba.pinned (OpenSpec.ofChange lawS5667BWholeWrong)

end Rows
end Go.Proofs.Ybulkdmim
