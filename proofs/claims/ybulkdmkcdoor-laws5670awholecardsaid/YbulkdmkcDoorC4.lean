import Derived.Test.YbulkdmkcDoorC1
namespace Go.Proofs.YbulkdmkcDoor
open Go Go.RowKit

set_option maxHeartbeats 12000000 in
set_option maxRecDepth 100000 in
/-- grow of a buffer without a row, at most 64 bytes. -/
theorem grow_small (T : Nat) (R : Nat → Option Value) (b q n : Nat) (lr : Int) (w : World)
    (hbk : LibA.Three w b q T R (.slice none 0 0) (.int .i64 0) (.int .i8 lr)) (hn : 1 ≤ n) (h64 : n ≤ 64) :
    Calls Ybad.prog 18 #[.pointer (some ⟨b, q, none⟩), .int .i64 n] w fun e w' => e = .returned (.int .i64 0) ∧ GrownRow w w' b q T R lr 0 n [] := by
  obtain ⟨i0, hi, hz0, hz1, hz2⟩ := info_parts info5
  have hbw := hbk.lt
  have hIs : LibA.IsBuffer T R 5 0 b q [] w := ⟨Nat.zero_le _, _, _, hbk, World.ownsRow_nil _ _ _ _, by simp [Value.ownBlock]⟩
  have hnil : ∀ W, (binOp .eql 22 (.slice none 0 0) (.slice none 0 0)).run Ybad.prog W = .ok (.bool true) W := fun W => Lib.run_eql_slice_nil_nil W _ _ Ybad.underlying22
  obtain ⟨M, hM⟩ : ∃ M, M = madeCells (Value.int .u8 0).cells ((64 : Int).toNat * i0.size) := ⟨_, rfl⟩
  have hMs : M.size = 64 := by rw [hM, size_madeCells, hz1]; rfl
  have hmk : ∀ W : World, (Instr.makeSlice 22 (.int .i64 (n : Int)) (.int .i64 64)).run Ybad.prog W = .ok (.slice (some ⟨W.heap.size, 0, none⟩) n 64) (W.alloc (.cells M 5)) := fun W => by
    have h := run_makeSlice (P := Ybad.prog) W 22 5 i0 (.int .u8 0) Ybad.underlying22 hi hz0 .i64 .i64 (n : Int) 64 (by omega) (by omega) (by rw [hz1]; decide) (by rw [hz2]; decide) (by decide)
    rw [← hM] at h
    simpa using h
  clear hM
  go_enter Ybad.func18, Ybad.ntmps18
  go_wp2_with fail
  refine (Ybad.Buffer_Len_at T R 0 b q [] _ hIs).mono ?_
  rintro e W0 ⟨rfl, k, hW0⟩
  have hbk0 : LibA.Three W0 b q T R (.slice none 0 0) (.int .i64 0) (.int .i8 lr) := by rw [hW0]; exact hbk
  have hs0 : W0.heap.size = w.heap.size := by rw [hW0]; rfl
  have hgr0 : w.grownBy W0 (some b) := by rw [hW0]; exact ⟨rfl, rfl, rfl, Nat.le_refl _, fun _ _ _ => rfl⟩
  have c0 : W0.cell? ⟨b, q, none⟩ = some (.slice none 0 0) := hbk0.c0
  have c1 : W0.cell? ⟨b, q + 1, none⟩ = some (.int .i64 0) := hbk0.c1
  have f0 : W0.frozen? ⟨b, q, none⟩ = false := hbk0.f q
  have f1 : W0.frozen? ⟨b, q + 1, none⟩ = false := hbk0.f (q + 1)
  have hbW0 : b < W0.heap.size := by omega
  have HS0 : Hid (W0.heap.size = w.heap.size) := hs0
  have HGR : Hid (w.grownBy W0 (some b)) := hgr0
  clear hW0 hIs hs0 hgr0
  go_wp2_with (go_at_call 17; refine (Ybad.Buffer_tryGrow_none_at b q _ 0 0 n _ c0 (Nat.le_refl _) (Nat.zero_le _) (by omega)).mono ?_; rintro e w' ⟨rfl, rfl⟩)
  go_ret
  refine ⟨rfl, 64, M, ?_, ?_, hMs, by unfold maxLen; omega, by omega, by simp, ?_⟩
  · have h3 := (hbk0.set0 (.slice (some ⟨w'.heap.size, 0, none⟩) n 64)).of_heap (w' := (w'.setCell ⟨b, q, none⟩ (.slice (some ⟨w'.heap.size, 0, none⟩) n 64)).alloc (.cells M 5)) (Below.heap_alloc _ _ b (by simpa using hbW0))
    rw [HS0.out] at h3
    rw [Nat.zero_add]
    simpa [HS0.out] using h3
  · have h4 := heap_alloc_new (w'.setCell ⟨b, q, none⟩ (.slice (some ⟨w'.heap.size, 0, none⟩) n 64)) (.cells M 5)
    have e5 : (w'.setCell ⟨b, q, none⟩ (.slice (some ⟨w'.heap.size, 0, none⟩) n 64)).heap.size = w.heap.size := by simpa using HS0.out
    rw [e5] at h4
    exact h4
  · exact Lib.grownBy_allocR (Lib.grownBy_setB HGR.out q _) _

end Go.Proofs.YbulkdmkcDoor
