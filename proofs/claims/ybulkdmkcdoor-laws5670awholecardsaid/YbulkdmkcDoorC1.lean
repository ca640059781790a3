import Derived.Test.YbulkdmkcDoorShelf
import Derived.WalkKit
import Derived.WalkLawsBesides
import Derived.WalkSpells
import Derived.Deep.RegionWith
import Derived.Deep.QuietTactic
import Derived.BigQuiet
import Derived.Lib.BufferAt
import Derived.Lib.BufferOwn
import Derived.Laws.CopyRow
import Derived.Laws.IdiomCopy
namespace Go.Proofs.YbulkdmkcDoor
open Go Go.RowKit

theorem info5 : (Ybad.prog.info? 5).map (fun i => (i.zero, i.size, i.bytes)) = some (some (.int .u8 0), 1, 1) := by kernel_rfl
theorem size5 : (Ybad.prog.info? 5).map (·.size) = some 1 := by kernel_rfl

/-- What a written bytes.Buffer is in memory: its three cells at q in block b; its row, if it has one, is block 'own'. -/
def Buf (w : World) (b q T : Nat) (R : Nat → Option Value) (bs : List Value) (own : Option Nat) : Prop :=
  ∃ lr : Int, (own = none ∧ bs = [] ∧ LibA.Three w b q T R (.slice none 0 0) (.int .i64 0) (.int .i8 lr)) ∨
    ∃ g cap cur, own = some g ∧ LibA.Three w b q T R (.slice (some ⟨g, 0, none⟩) bs.length cap) (.int .i64 0) (.int .i8 lr) ∧ w.heap[g]? = some (.cells cur 5 (0, 0)) ∧ bs.length ≤ cap ∧ cap ≤ maxLen ∧ cur.size = cap ∧ cur.toList.take bs.length = bs ∧ g ≠ b

theorem Buf.isBuffer {w : World} {b q T : Nat} {R : Nat → Option Value} {bs : List Value} {own : Option Nat} (h : Buf w b q T R bs own) : LibA.IsBuffer T R 5 0 b q bs w := by
  obtain ⟨lr, ⟨_, rfl, h3⟩ | ⟨g, cap, cur, _, h3, hg, h1, h2, h4, h5, h6⟩⟩ := h
  · exact ⟨Nat.zero_le _, _, lr, h3, World.ownsRow_nil _ _ _ _, by simp [Value.ownBlock]⟩
  · exact ⟨Nat.zero_le _, _, lr, h3, ⟨by simp, .inr ⟨g, cap, cur, rfl, Nat.zero_le _, hg, h1, h2, by omega, by rw [Nat.mul_one]; exact h5⟩⟩, by simp [Value.ownBlock]; exact h6⟩

/-- What grow leaves: the old bytes in a new row, room for n more. -/
def GrownRow (w w' : World) (b q T : Nat) (R : Nat → Option Value) (lr : Int) (l n : Nat) (bs : List Value) : Prop :=
  ∃ cap cells, LibA.Three w' b q T R (.slice (some ⟨w.heap.size, 0, none⟩) (l + n) cap) (.int .i64 0) (.int .i8 lr) ∧ w'.heap[w.heap.size]? = some (.cells cells 5 (0, 0)) ∧ cells.size = cap ∧ cap ≤ maxLen ∧ l + n ≤ cap ∧ cells.toList.take l = bs ∧ w.grownBy w' (some b)

theorem grown_end {w w1 w2 : World} {b q T : Nat} {R : Nat → Option Value} {lr : Int} {l n cap2 : Nat} {bs : List Value} {v0 v1 : Value} {cells : Array Value} (hs : w1.heap.size = w.heap.size) (hg1 : w.grownBy w1 (some b)) (hbel : Below w1.heap.size w1 w2)
    (hbk2 : LibA.Three w2 b q T R v0 (.int .i64 0) (.int .i8 lr)) (hN : w2.heap[w1.heap.size]? = some (.cells cells 5 (0, 0))) (hNb : b < w.heap.size) (hcsz : cells.size = cap2) (htk : cells.toList.take l = bs) (hcap : l + n ≤ cap2) (hcm : cap2 ≤ maxLen) :
    GrownRow w (((w2.setCell ⟨b, q, none⟩ v1).setCell ⟨b, q + 1, none⟩ (.int .i64 0)).setCell ⟨b, q, none⟩ (.slice (some ⟨w1.heap.size, 0, none⟩) (l + n) cap2)) b q T R lr l n bs := by
  have hg2 : w.grownBy w2 (some b) := Lib.grownBy_below hg1 hbel
  refine ⟨cap2, cells, ?_, ?_, hcsz, hcm, hcap, htk, Lib.grownBy_setB (Lib.grownBy_setB (Lib.grownBy_setB hg2 q _) (q + 1) _) q _⟩
  · rw [← hs]; exact ((hbk2.set0 v1).set1 (.int .i64 0)).set0 _
  · rw [Below.heap_setCell _ _ _ _ (by show w.heap.size ≠ b; omega), Below.heap_setCell _ _ _ _ (by show w.heap.size ≠ b; omega), Below.heap_setCell _ _ _ _ (by show w.heap.size ≠ b; omega), ← hs]; exact hN

theorem grown_drew {w w1 : World} {row : Option Nat} (h : w.grownBy w1 row) : w.grownBy w1.drew row := ⟨h.os, h.tape, h.output, h.size, h.block⟩

end Go.Proofs.YbulkdmkcDoor
