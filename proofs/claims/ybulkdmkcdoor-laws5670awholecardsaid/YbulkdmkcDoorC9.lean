import Derived.Test.YbulkdmkcDoorC1
import Derived.Laws.IdiomStrings
import Derived.Laws.AppendOwnNone
import Derived.Shelf.Bytes.SlSmallAll
namespace Go.Proofs.YbulkdmkcDoor
open Go Go.RowKit

/-- The bytes l lie at ao. -/
def Bs (w : World) (ao : Option Addr) (l : List UInt8) : Prop := l ≠ [] → ∃ a : Addr, ao = some a ∧ ∀ j v, (Lib.byteCells l)[j]? = some v → w.cell? (a.add j) = some v

theorem conv_bytes {w : World} {ao : Option Addr} {l : List UInt8} (h : Bs w ao l) (c : Nat) : (convert 22 9 (.slice ao l.length c)).run Ybad.prog w = .ok (.string ⟨l.toArray⟩) w := by
  by_cases h0 : l = []
  · subst h0
    exact run_convert_bytes_zero w 22 5 Ybad.underlying22 Ybad.underlying5 ao c 9 Ybad.underlying9
  · obtain ⟨a, rfl, hc⟩ := h h0
    exact run_convert_bytes_back w 22 9 5 a c l Ybad.underlying22 Ybad.underlying5 Ybad.underlying9 (fun j hj => hc j _ (by simp [Lib.byteCells, List.getElem?_eq_getElem hj]))

set_option maxHeartbeats 1000000 in
set_option maxRecDepth 100000 in
/-- bytes.Equal of the same bytes. -/
theorem equal_same (ao bo : Option Addr) (l : List UInt8) (c d : Nat) (w : World) (h1 : Bs w ao l) (h2 : Bs w bo l) :
    Calls Ybad.prog 9 #[.slice ao l.length c, .slice bo l.length d] w fun e w' => e = .returned (.bool true) ∧ w' = w := by
  have e1 := conv_bytes h1 c
  have e2 := conv_bytes h2 d
  clear h1 h2
  go_enter Ybad.func9, Ybad.ntmps9
  go_wp2
  go_ret
  exact ⟨by simp, rfl⟩

/-- What bytes.Clone hands back. -/
structure Cloned (w : World) (l : List UInt8) (ao : Option Addr) (w' : World) : Prop where
  bs : Bs w' ao l
  old : ∀ a, ao = some a → w.heap.size ≤ a.block ∧ a.block < w'.heap.size
  bel : Below w.heap.size w w'

theorem cloned_of {w w1 : World} {o : Obj} {l : List UInt8} {v : Value} {row : Option Nat} (hown : w1.ownsRow w.heap.size 5 1 v l.length (Lib.byteCells l)) (hg : (w.alloc o).grownBy w1 row) (hr : ∀ k, row = some k → w.heap.size ≤ k) :
    ∃ ao c, v = .slice ao l.length c ∧ (ao = none → c = 0) ∧ Cloned w l ao w1 := by
  have hbel : Below w.heap.size w w1 := ((Below.refl _ w).alloc (Nat.le_refl _) o).grown hg (by simp) hr
  have hown' := hown
  obtain ⟨_, ⟨rfl, h0⟩ | ⟨g, cap, cur, rfl, hb, hc, _, _, _, _⟩⟩ := hown
  · have hl : l = [] := List.eq_nil_of_length_eq_zero h0
    exact ⟨none, 0, by rw [h0], fun _ => rfl, ⟨fun h => absurd hl h, fun a h => (by cases h), hbel⟩⟩
  · refine ⟨some ⟨g, 0, none⟩, cap, rfl, (fun h => by cases h), ⟨fun _ => ⟨_, rfl, fun j u hj => ?_⟩, fun a h => ?_, hbel⟩⟩
    · have hj' : j < l.length := by
        have := (List.getElem?_eq_some_iff.1 hj).1
        simpa [Lib.byteCells] using this
      rw [Addr.add_lit, Nat.zero_add, hown'.cellAt j (by omega)]
      exact hj
    · injection h with h
      subst h
      exact ⟨hb, (Array.getElem?_eq_some_iff.1 hc).1⟩

set_option maxHeartbeats 1000000 in
set_option maxRecDepth 100000 in
/-- bytes.Clone. -/
theorem clone_any (ao : Option Addr) (l : List UInt8) (c : Nat) (w : World) (h : Bs w ao l) (hl : l.length ≤ 1048576) (hnone : ao = none → l = [] ∧ c = 0) :
    Calls Ybad.prog 6 #[.slice ao l.length c] w fun e w' => ∃ ao' c', e = .returned (.slice ao' l.length c') ∧ (ao' = none → c' = 0) ∧ Cloned w l ao' w' := by
  obtain ⟨i5, hi5, hz0, hz1, hz2⟩ := info_parts info5
  cases ao with
  | none =>
    obtain ⟨rfl, rfl⟩ := hnone rfl
    have hnil : ∀ W, (binOp .eql 22 (.slice none 0 0) (.slice none 0 0)).run Ybad.prog W = .ok (.bool true) W := fun W => Lib.run_eql_slice_nil_nil W _ _ Ybad.underlying22
    go_enter Ybad.func6, Ybad.ntmps6
    go_wp2
    go_ret
    exact ⟨none, 0, rfl, fun _ => rfl, ⟨fun h => absurd rfl h, fun a h => (by cases h), Below.refl _ _⟩⟩
  | some a =>
    have hnil : ∀ W, (binOp .eql 22 (.slice (some a) l.length c) (.slice none 0 0)).run Ybad.prog W = .ok (.bool false) W := fun W => Lib.run_eql_slice_some_nil W _ _ _ Ybad.underlying22
    have hown : (w.alloc (.cells #[] 5)).ownsRow w.heap.size 5 1 (.slice (some ⟨w.heap.size, 0, none⟩) 0 0) 0 [] := World.ownsRow_made w #[] 0 (Nat.le_refl _) (Nat.zero_le _) (by simp)
    have hsrc : ∀ j v, (Lib.byteCells l)[j]? = some v → (w.alloc (.cells #[] 5)).cell? (a.add j) = some v := fun j v hj => by
      have hne : l ≠ [] := fun e => by rw [e] at hj; simp [Lib.byteCells] at hj
      obtain ⟨a', ha, hc⟩ := h hne
      injection ha with ha
      subst ha
      have hcc := hc j v hj
      exact (World.cell?_of_block (w := w) (Below.heap_alloc w _ _ (World.block_lt_of_cell? w _ hcc))).trans hcc
    have HOWN : Hid ((w.alloc (.cells #[] 5)).ownsRow w.heap.size 5 1 (.slice (some ⟨w.heap.size, 0, none⟩) 0 0) 0 []) := hown
    have HSRC : Hid _ := hsrc
    clear hown hsrc h
    go_enter Ybad.func6, Ybad.ntmps6
    go_wp2_with (at_builtin; refine wpList_append_own _ rfl (.tmp 5) (.tmp 6) 22 rfl w.heap.size 5 i5 (.int .u8 0) 1 1 Ybad.underlying22 hi5 hz0 hz1 hz2 rfl (by decide) (.slice (some ⟨w.heap.size, 0, none⟩) 0 0) 0 [] rfl ?q0 a l.length c (Lib.byteCells l) rfl (by simp [Lib.byteCells]) ?q1 ?q2 (by simp [maxLen]; omega) (by omega) (by simp) ?_)
    case q0 => exact HOWN.out
    case q1 => exact HSRC.out
    case q2 => exact Lib.byteCells_one _
    intro v1 w1 own1 grow1 _
    obtain ⟨ao', c', rfl, hc0, hcl⟩ := cloned_of own1 grow1 (by intro k hk; simp [Value.ownBlock] at hk; omega)
    clear own1 grow1
    go_wp2
    go_ret
    exact ⟨ao', c', rfl, hc0, hcl⟩

end Go.Proofs.YbulkdmkcDoor
