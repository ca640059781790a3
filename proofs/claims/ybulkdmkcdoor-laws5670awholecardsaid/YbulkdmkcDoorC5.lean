import Derived.Test.YbulkdmkcDoorC1
namespace Go.Proofs.YbulkdmkcDoor
open Go Go.RowKit

set_option maxHeartbeats 12000000 in
set_option maxRecDepth 100000 in
/-- grow of a buffer without a row, more than 64 bytes. -/
theorem grow_big (T : Nat) (R : Nat → Option Value) (b q n : Nat) (lr : Int) (w : World)
    (hbk : LibA.Three w b q T R (.slice none 0 0) (.int .i64 0) (.int .i8 lr)) (h64 : 64 < n) (hlim : n ≤ 140737488355328) :
    Calls Ybad.prog 18 #[.pointer (some ⟨b, q, none⟩), .int .i64 n] w fun e w' => e = .returned (.int .i64 0) ∧ GrownRow w w' b q T R lr 0 n [] := by
  have hn : 1 ≤ n := by omega
  have hbw := hbk.lt
  have hIs : LibA.IsBuffer T R 5 0 b q [] w := ⟨Nat.zero_le _, _, _, hbk, World.ownsRow_nil _ _ _ _, by simp [Value.ownBlock]⟩
  have hnil : ∀ W, (binOp .eql 22 (.slice none 0 0) (.slice none 0 0)).run Ybad.prog W = .ok (.bool true) W := fun W => Lib.run_eql_slice_nil_nil W _ _ Ybad.underlying22
  go_enter Ybad.func18, Ybad.ntmps18
  go_wp2_with fail
  refine (Ybad.Buffer_Len_at T R 0 b q [] _ hIs).mono ?_
  rintro e W0 ⟨rfl, k, hW0⟩
  have hbk0 : LibA.Three W0 b q T R (.slice none 0 0) (.int .i64 0) (.int .i8 lr) := by rw [hW0]; exact hbk
  have hs0 : W0.heap.size = w.heap.size := by rw [hW0]; rfl
  have hgr0 : w.grownBy W0 (some b) := by rw [hW0]; exact ⟨rfl, rfl, rfl, Nat.le_refl _, fun _ _ _ => rfl⟩
  have c0 : W0.cell? ⟨b, q, none⟩ = some (.slice none 0 0) := hbk0.c0
  have c1 : W0.cell? ⟨b, q + 1, none⟩ = some (.int .i64 0) := hbk0.c1
  have f0 : W0.frozen? ⟨b, q, none⟩ = false := hbk0.f q
  have f1 : W0.frozen? ⟨b, q + 1, none⟩ = false := hbk0.f (q + 1)
  have hbW : b < W0.heap.size := by omega
  have HS0 : Hid (W0.heap.size = w.heap.size) := hs0
  have HGR : Hid (w.grownBy W0 (some b)) := hgr0
  clear hW0 hIs hs0 hgr0
  go_wp2_with (go_at_call 17; refine (Ybad.Buffer_tryGrow_none_at b q _ 0 0 n _ c0 (Nat.le_refl _) (Nat.zero_le _) (by omega)).mono ?_; rintro e w' ⟨rfl, rfl⟩)
  have hwn : IntKind.i64.wrap (n : Int) = n := by rw [IntKind.wrap_i64]; omega
  go_region_with (
      go_at_call 28
      refine (Ybad.bytes_growSlice_nil n _ hn hlim).mono ?_
      rintro e w2 ⟨cap2, cells, rfl, hN, hcsz, hcap2, hcm2, hbel⟩
      have hbk2 : LibA.Three w2 b q T R (.slice none 0 0) (.int .i64 0) (.int .i8 lr) := hbk0.of_heap (hbel.block b hbW)
      have d0 : w2.cell? ⟨b, q, none⟩ = some (.slice none 0 0) := hbk2.c0
      have d1 : w2.cell? ⟨b, q + 1, none⟩ = some (.int .i64 0) := hbk2.c1
      have e0 : w2.frozen? ⟨b, q, none⟩ = false := hbk2.f q
      have e1 : w2.frozen? ⟨b, q + 1, none⟩ = false := hbk2.f (q + 1))
  all_goals (
    go_wp2
    go_ret
    have hend := grown_end (l := 0) (n := n) (bs := []) (v1 := .slice (some ⟨w'.drew.heap.size, 0, none⟩) 0 cap2) (w1 := w'.drew) HS0.out (grown_drew HGR.out) hbel hbk2 hN hbw hcsz (by simp) (by omega) hcm2
    rw [Nat.zero_add] at hend
    exact ⟨rfl, hend⟩)

end Go.Proofs.YbulkdmkcDoor
