import Derived.Test.YbulkdmkcDoorC9
import Derived.Test.YbulkdmkcDoorRows
import Derived.OpenShut
import Derived.SizedLaws
import Derived.ChangeSame
import Derived.ChangeVars
import Derived.JoinedOf
import Derived.RowKitTokens
import Derived.LaidLaws
import Derived.LaidHandle
import Derived.Handed
namespace Go.Proofs.YbulkdmkcDoor
open Go Go.RowKit

/-- The first n numbers, as bytes. -/
def bytesAt (zs : List Int) (n : Nat) : List UInt8 := (zs.take n).map fun z => UInt8.ofNat z.toNat

theorem bytesAt_len (zs : List Int) (n : Nat) (h : n ≤ zs.length) : (bytesAt zs n).length = n := by
  simp [bytesAt]; omega

theorem byte_num (z : Int) (h0 : 0 ≤ z) (h1 : z ≤ 255) : ((UInt8.ofNat z.toNat).toNat : Int) = z := by
  have : (UInt8.ofNat z.toNat).toNat = z.toNat := by
    rw [UInt8.toNat_ofNat']
    omega
  omega

theorem bs_of {w : World} {a : Addr} {zs : List Int} {n : Nat} (hc : ∀ c, c < n → w.cell? (a.add c) = some (.int .u8 (zs.getD c 0))) (hw : ∀ z ∈ zs, (Lit.int .u8 z).wf = true) (hn : n ≤ zs.length) : Bs w (some a) (bytesAt zs n) := fun _ => by
  refine ⟨a, rfl, fun j v hj => ?_⟩
  have hlt : j < n := by
    have := (List.getElem?_eq_some_iff.1 hj).1
    simp [Lib.byteCells, bytesAt] at this
    omega
  rw [hc j hlt]
  have hjz : j < zs.length := by omega
  have hb := Go.bounds_u8 (hw _ (List.getElem_mem hjz))
  have e : zs.getD j 0 = zs[j] := by simp [List.getD_eq_getElem?_getD, List.getElem?_eq_getElem hjz]
  have : (Lib.byteCells (bytesAt zs n))[j]? = some (.int .u8 ((UInt8.ofNat (zs[j]).toNat).toNat : Int)) := by
    simp [Lib.byteCells, bytesAt, hlt, List.getElem?_eq_getElem hjz]
  rw [this] at hj
  rw [← hj, e, byte_num _ hb.1 hb.2]

theorem own : ownKnob Ybad.prog.godebug = none := by kernel_rfl
theorem laidOut : laidOutB Ybad.prog = true := by kernel_rfl
theorem reach_eq : reachBytes = 140737488351232 := rfl
theorem bytes5 : Ybad.prog.bytesOf 5 = 1 := by kernel_rfl

/-- The listed variable, laid: a world that meets the row's condition (the settled one, one block more). -/
theorem laid_met (os : Os) (args : Array Value) : laidMetH Ybad.prog [("bytes.ErrTooLarge", Rows.laid_bytes_ErrTooLarge)]
    (({ World.holding Ybad.prog os ⟨#[.cells #[.string ⟨#[98, 121, 116, 101, 115, 46, 66, 117, 102, 102, 101, 114, 58, 32, 116, 111, 111, 32, 108, 97, 114, 103, 101]⟩] 173], #[], []⟩ with
        heap := (World.holding Ybad.prog os ⟨#[.cells #[.string ⟨#[98, 121, 116, 101, 115, 46, 66, 117, 102, 102, 101, 114, 58, 32, 116, 111, 111, 32, 108, 97, 114, 103, 101]⟩] 173], #[], []⟩).heap.modify 0 fun
          | .cells _ t frozen => .cells #[.iface 136 (.pointer (some ⟨(World.holding Ybad.prog default ⟨#[], #[], []⟩).heap.size, 0, none⟩))] t frozen
          | o => o } : World).forCall (fun _ _ => 0) ⟨#[], args, []⟩).memory :=
  laidMetH_of_parts (laidMet_of_run' 8 (by kernel_rfl) (by kernel_rfl)) (by kernel_rfl)

end Go.Proofs.YbulkdmkcDoor
