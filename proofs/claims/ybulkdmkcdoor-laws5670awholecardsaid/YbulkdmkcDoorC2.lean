import Derived.Test.YbulkdmkcDoorC1
namespace Go.Proofs.YbulkdmkcDoor
open Go Go.RowKit

set_option maxHeartbeats 12000000 in
set_option maxRecDepth 100000 in
theorem grow_row0 (T : Nat) (R : Nat → Option Value) (b q g l cap n : Nat) (lr : Int) (cur : Array Value) (bs : List Value) (w : World)
    (hbk : LibA.Three w b q T R (.slice (some ⟨g, 0, none⟩) l cap) (.int .i64 0) (.int .i8 lr))
    (hl0 : l = 0) (hl : bs.length = l) (hg : w.heap[g]? = some (.cells cur 5 (0, 0))) (hlc : l ≤ cap) (hcm : cap ≤ maxLen) (hcs : cur.size = cap) (htake : cur.toList.take l = bs) (hgb : g ≠ b)
    (h1 : ∀ v ∈ bs, v.oneCell' = true) (hn : 1 ≤ n) (hroom : cap - l < n) (hlim : l + n ≤ 140737488355328) :
    Calls Ybad.prog 18 #[.pointer (some ⟨b, q, none⟩), .int .i64 n] w fun e w' => e = .returned (.int .i64 l) ∧ GrownRow w w' b q T R lr l n bs := by
  have hIs : LibA.IsBuffer T R 5 0 b q bs w := ⟨Nat.zero_le _, _, _, hbk, ⟨by rw [hl, Nat.mul_one], .inr ⟨g, cap, cur, by rw [hl], Nat.zero_le _, hg, by omega, hcm, by omega, by rw [hl, Nat.mul_one]; exact htake⟩⟩, by simp [Value.ownBlock]; exact hgb⟩
  have hnil : ∀ W, (binOp .eql 22 (.slice (some ⟨g, 0, none⟩) l cap) (.slice none 0 0)).run Ybad.prog W = .ok (.bool false) W := fun W => Lib.run_eql_slice_some_nil W _ _ _ Ybad.underlying22
  have hbw := hbk.lt
  subst hl0
  go_enter Ybad.func18, Ybad.ntmps18
  go_wp2_with fail
  refine (Ybad.Buffer_Len_at T R 0 b q bs _ hIs).mono ?_
  rintro e W0 ⟨rfl, k, hW0⟩
  rw [hl]
  have hbk0 : LibA.Three W0 b q T R (.slice (some ⟨g, 0, none⟩) 0 cap) (.int .i64 0) (.int .i8 lr) := by rw [hW0]; exact hbk
  have hg0 : W0.heap[g]? = some (.cells cur 5 (0, 0)) := by rw [hW0]; exact hg
  have hs0 : W0.heap.size = w.heap.size := by rw [hW0]; rfl
  have hgr0 : w.grownBy W0 (some b) := by rw [hW0]; exact ⟨rfl, rfl, rfl, Nat.le_refl _, fun _ _ _ => rfl⟩
  have c0 : W0.cell? ⟨b, q, none⟩ = some (.slice (some ⟨g, 0, none⟩) 0 cap) := hbk0.c0
  have c1 : W0.cell? ⟨b, q + 1, none⟩ = some (.int .i64 0) := hbk0.c1
  have f0 : W0.frozen? ⟨b, q, none⟩ = false := hbk0.f q
  have f1 : W0.frozen? ⟨b, q + 1, none⟩ = false := hbk0.f (q + 1)
  have HS0 : Hid (W0.heap.size = w.heap.size) := hs0
  have HGR : Hid (w.grownBy W0 (some b)) := hgr0
  have hbW : b < W0.heap.size := by omega
  clear hW0 hIs hs0 hgr0
  have hcm' := hcm
  unfold maxLen at hcm'
  go_wp2_with (go_at_call 17; refine (Ybad.Buffer_tryGrow_none_at b q _ 0 cap n _ c0 hlc hcm hroom).mono ?_; rintro e w' ⟨rfl, rfl⟩)
  have hc2 : cap ≤ 140737488355328 := by omega
  have h1' : ∀ v ∈ cur.toList.take 0, v.oneCell' = true := by rw [htake]; exact h1
  have hwn : IntKind.i64.wrap (n : Int) = n := by rw [IntKind.wrap_i64]; omega
  go_region_with (
      go_at_call 28
      refine (Ybad.bytes_growSlice_row g 0 cap n cur _ ?_ hcs hlc hn hlim hc2 h1').mono ?_
      exact hg0
      rintro e w2 ⟨cap2, cells, rfl, hN, hcsz, htk, hcap2, hcm2, hbel⟩
      have hbk2 : LibA.Three w2 b q T R (.slice (some ⟨g, 0, none⟩) 0 cap) (.int .i64 0) (.int .i8 lr) := hbk0.of_heap (hbel.block b hbW)
      have d0 : w2.cell? ⟨b, q, none⟩ = some (.slice (some ⟨g, 0, none⟩) 0 cap) := hbk2.c0
      have d1 : w2.cell? ⟨b, q + 1, none⟩ = some (.int .i64 0) := hbk2.c1
      have e0 : w2.frozen? ⟨b, q, none⟩ = false := hbk2.f q
      have e1 : w2.frozen? ⟨b, q + 1, none⟩ = false := hbk2.f (q + 1))
  all_goals (
    go_wp2
    go_ret
    have hend := grown_end (l := 0) (n := n) (bs := bs) (v1 := .slice (some ⟨w'.drew.heap.size, 0, none⟩) 0 cap2) (w1 := w'.drew) HS0.out (grown_drew HGR.out) hbel hbk2 hN hbw hcsz (htk.trans htake) hcap2 hcm2
    rw [Nat.zero_add] at hend
    exact ⟨rfl, hend⟩)

end Go.Proofs.YbulkdmkcDoor
