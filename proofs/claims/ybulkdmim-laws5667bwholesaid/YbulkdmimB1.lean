import Derived.Test.YbulkdmimProg
import Derived.WalkKit
import Derived.WalkLawsBesides
import Derived.WalkSpells
import Derived.Deep.Heap
namespace Go.Proofs.Ybulkdmim
open Go.RowKit

theorem Yba.info50 : (Yba.prog.info? 50).map (fun i => (i.zero, i.size, i.bytes)) = some (some (.pointer none), 1, 8) := by kernel_rfl
theorem Yba.info3 : (Yba.prog.info? 3).map (fun i => (i.zero, i.size, i.bytes)) = some (some (.int .i64 0), 1, 8) := by kernel_rfl

/-- What an append of one element to a nil slice leaves. -/
theorem owned_one {w : World} {base e : Nat} {v u : Value} (h : w.ownsRow base e 1 v (0 + 1) ([] ++ [u])) :
    ∃ g c, v = .slice (some ⟨g, 0, none⟩) 1 c ∧ base ≤ g ∧ g < w.heap.size ∧ w.cell? ⟨g, 0, none⟩ = some u := by
  obtain ⟨_, h | ⟨g, cap, cur, hv, hb, hg, _, _, _, ht⟩⟩ := h
  · omega
  · refine ⟨g, cap, hv, hb, ?_, ?_⟩
    · exact (Array.getElem?_eq_some_iff.1 hg).1
    · simp only [World.cell?, hg]
      have h0 : cur.toList[0]? = some u := by
        have h2 : (List.take ((0 + 1) * 1) cur.toList)[0]? = some u := by rw [ht]; rfl
        rwa [List.getElem?_take_of_lt (by omega)] at h2
      simpa using h0

/-- What an append leaves of every old cell. -/
theorem grown_old {w w1 : World} {o : Obj} (hg : (w.alloc o).grownBy w1 (Value.slice none 0 0).ownBlock) :
    (∀ b x, b < w.heap.size → w1.cell? ⟨b, x, none⟩ = w.cell? ⟨b, x, none⟩) ∧ (∀ b x, b < w.heap.size → w1.frozen? ⟨b, x, none⟩ = w.frozen? ⟨b, x, none⟩) ∧ w.heap.size < w1.heap.size ∧ Below w.heap.size w w1 := by
  have hb : ∀ k, k < w.heap.size → w1.heap[k]? = w.heap[k]? := fun k hk =>
    (hg.block k (by simp; omega) (by simp [Value.ownBlock])).trans (Below.heap_alloc w o k hk)
  have hs : w.heap.size < w1.heap.size := by have := hg.size; simp at this; omega
  exact ⟨fun b x h => World.cell?_of_block (w := w) (hb b h), fun b x h => World.frozen?_of_block (w := w) (hb b h), hs, ((Below.refl _ w).alloc (Nat.le_refl _) o).grown hg (by simp) (by simp [Value.ownBlock])⟩

set_option maxRecDepth 100000 in
set_option maxHeartbeats 1000000 in
/-- (*zzs5667bfollower).Started on a follower that has logged nothing. -/
theorem started (bf : Nat) (ps : Option Addr) (g : Int) (w : World)
    (h0 : w.cell? ⟨bf, 0, none⟩ = some (.slice none 0 0)) (h1 : w.cell? ⟨bf, 1, none⟩ = some (.slice none 0 0))
    (f0 : w.frozen? ⟨bf, 0, none⟩ = false) (f1 : w.frozen? ⟨bf, 1, none⟩ = false) :
    Calls Yba.prog 41 #[.pointer (some ⟨bf, 0, none⟩), .pointer ps, .int .i64 g] w fun e w' => e = .returned (.tuple #[]) ∧ 
      ∃ b1 c1 b2 c2, w'.cell? ⟨bf, 0, none⟩ = some (.slice (some ⟨b1, 0, none⟩) 1 c1) ∧ w'.cell? ⟨bf, 1, none⟩ = some (.slice (some ⟨b2, 0, none⟩) 1 c2) ∧
        w'.cell? ⟨b1, 0, none⟩ = some (.pointer ps) ∧ w'.cell? ⟨b2, 0, none⟩ = some (.int .i64 g) ∧
        (∀ b x, b < w.heap.size → b ≠ bf → w'.cell? ⟨b, x, none⟩ = w.cell? ⟨b, x, none⟩) ∧ w'.cell? ⟨bf, 2, none⟩ = w.cell? ⟨bf, 2, none⟩ ∧ Below bf w w' := by
  obtain ⟨i50, hi50, hz0, hz1, hz2⟩ := info_parts Yba.info50
  obtain ⟨i3, hi3, hy0, hy1, hy2⟩ := info_parts Yba.info3
  have hlt : bf < w.heap.size := World.block_lt_of_cell? w _ h0
  go_enter Yba.func41, Yba.ntmps41
  go_wp2_with (at_builtin; refine wpList_append_own _ rfl (.tmp 10) (.tmp 12) 65 rfl w.heap.size 50 i50 (.pointer none) 1 8 Yba.underlying65 hi50 hz0 hz1 hz2 rfl (by decide) (.slice none 0 0) 0 [] rfl (World.ownsRow_nil _ _ _ _) ⟨w.heap.size, 0, none⟩ 1 1 [.pointer ps] rfl rfl (cell_one_new _ _ _) (by simp [Value.oneCell']) (by simp [maxLen]) (by decide) (by simp) ?_)
  intro v1 w1 own1 grow1 _
  obtain ⟨b1, c1, rfl, hb1, hl1, hc1⟩ := owned_one own1
  obtain ⟨k1, z1, s1, B1⟩ := grown_old grow1
  have k10 := (k1 bf 0 hlt).trans h0
  have k11 := (k1 bf 1 hlt).trans h1
  have k12 := k1 bf 2 hlt
  have z10 := (z1 bf 0 hlt).trans f0
  have z11 := (z1 bf 1 hlt).trans f1
  have HK : Hid (∀ b x, b < w.heap.size → w1.cell? ⟨b, x, none⟩ = w.cell? ⟨b, x, none⟩) := k1
  have HK2 : Hid (w1.cell? ⟨bf, 2, none⟩ = w.cell? ⟨bf, 2, none⟩) := k12
  have HB : Hid (Below w.heap.size w w1) := B1
  clear own1 grow1 k1 k12 z1 h0 h1 f0 f1 B1
  go_wp2_with (at_builtin; refine wpList_append_own _ rfl (.tmp 20) (.tmp 22) 23 rfl w1.heap.size 3 i3 (.int .i64 0) 1 8 Yba.underlying23 hi3 hy0 hy1 hy2 rfl (by decide) (.slice none 0 0) 0 [] rfl (World.ownsRow_nil _ _ _ _) ⟨w1.heap.size, 0, none⟩ 1 1 [.int .i64 g] rfl rfl ?_ (by simp [Value.oneCell']) (by simp [maxLen]) (by decide) (by simp) ?_)
  · have := cell_one_new (w1.setCell ⟨bf, 0, none⟩ (.slice (some ⟨b1, 0, none⟩) 1 c1)) (.int .i64 g) 3
    rwa [Go.Deep.nblk_setCell] at this
  intro v2 w2 own2 grow2 _
  obtain ⟨b2, c2, rfl, hb2, hl2, hc2⟩ := owned_one own2
  obtain ⟨k2, z2, s2, B2⟩ := grown_old grow2
  have e0 : w2.cell? ⟨bf, 0, none⟩ = some (.slice (some ⟨b1, 0, none⟩) 1 c1) := (k2 bf 0 (by simp; omega)).trans (World.cell?_setCell_same w1 ⟨bf, 0, none⟩ _ k10)
  have e1 : w2.cell? ⟨bf, 1, none⟩ = some (.slice none 0 0) := (k2 bf 1 (by simp; omega)).trans ((World.cell?_setCell_other w1 ⟨bf, 0, none⟩ ⟨bf, 1, none⟩ _ (by simp)).trans k11)
  have e2 : w2.cell? ⟨bf, 2, none⟩ = w1.cell? ⟨bf, 2, none⟩ := (k2 bf 2 (by simp; omega)).trans (World.cell?_setCell_other w1 ⟨bf, 0, none⟩ ⟨bf, 2, none⟩ _ (by simp))
  have e3 : w2.cell? ⟨b1, 0, none⟩ = some (.pointer ps) := (k2 b1 0 (by simp; omega)).trans ((World.cell?_setCell_other w1 ⟨bf, 0, none⟩ ⟨b1, 0, none⟩ _ (by intro h; injection h; omega)).trans hc1)
  have y1 : w2.frozen? ⟨bf, 1, none⟩ = false := (z2 bf 1 (by simp; omega)).trans ((World.frozen?_setCell _ _ _ _).trans z11)
  have s3 : w1.heap.size < w2.heap.size := by simpa using s2
  have HE2 : Hid (w2.cell? ⟨bf, 2, none⟩ = w.cell? ⟨bf, 2, none⟩) := e2.trans HK2.out
  have HE : Hid (∀ b x, b < w.heap.size → b ≠ bf → w2.cell? ⟨b, x, none⟩ = w.cell? ⟨b, x, none⟩) := fun b x h hne =>
    (k2 b x (by simp; omega)).trans ((World.cell?_setCell_other w1 ⟨bf, 0, none⟩ ⟨b, x, none⟩ _ (by intro h; injection h; omega)).trans (HK.out b x h))
  have HB2 : Hid (Below bf w w2) := ((HB.out.mono (Nat.le_of_lt hlt)).setCell (p := ⟨bf, 0, none⟩) (Nat.le_refl _) _).trans (B2.mono (by rw [Go.Deep.nblk_setCell]; omega))
  clear own2 grow2 k2 z2 B2 e2 HK HK2 HB k10 k11 z10 z11 s2
  go_wp2
  go_end0
  refine ⟨rfl, b1, c1, b2, c2, ?_, ?_, ?_, ?_, ?_, ?_, ?_⟩
  · exact (World.cell?_setCell_other w2 ⟨bf, 1, none⟩ ⟨bf, 0, none⟩ _ (by simp)).trans e0
  · exact World.cell?_setCell_same w2 ⟨bf, 1, none⟩ _ e1
  · exact (World.cell?_setCell_other w2 ⟨bf, 1, none⟩ ⟨b1, 0, none⟩ _ (by intro h; injection h; omega)).trans e3
  · exact (World.cell?_setCell_other w2 ⟨bf, 1, none⟩ ⟨b2, 0, none⟩ _ (by intro h; injection h; omega)).trans hc2
  · exact fun b x h hne => (World.cell?_setCell_other w2 ⟨bf, 1, none⟩ ⟨b, x, none⟩ _ (by intro h; injection h; omega)).trans (HE.out b x h hne)
  · exact (World.cell?_setCell_other w2 ⟨bf, 1, none⟩ ⟨bf, 2, none⟩ _ (by simp)).trans HE2.out
  · exact HB2.out.setCell (p := ⟨bf, 1, none⟩) (Nat.le_refl _) _
end Go.Proofs.Ybulkdmim
