import Derived.Test.YbulkdmkcDoorC2
import Derived.Test.YbulkdmkcDoorC3
import Derived.Test.YbulkdmkcDoorC4
import Derived.Test.YbulkdmkcDoorC5
import Derived.Test.YbulkdmkcDoorC6
import Derived.Lib.BufferSrc
namespace Go.Proofs.YbulkdmkcDoor
open Go Go.RowKit

/-- grow, whatever the buffer holds. -/
theorem grow_nil (T : Nat) (R : Nat → Option Value) (b q n : Nat) (lr : Int) (w : World)
    (hbk : LibA.Three w b q T R (.slice none 0 0) (.int .i64 0) (.int .i8 lr)) (hn : 1 ≤ n) (hlim : n ≤ 140737488355328) :
    Calls Ybad.prog 18 #[.pointer (some ⟨b, q, none⟩), .int .i64 n] w fun e w' => e = .returned (.int .i64 0) ∧ GrownRow w w' b q T R lr 0 n [] := by
  by_cases h : n ≤ 64
  · exact grow_small T R b q n lr w hbk hn h
  · exact grow_big T R b q n lr w hbk (by omega) hlim

theorem grow_row (T : Nat) (R : Nat → Option Value) (b q g l cap n : Nat) (lr : Int) (cur : Array Value) (bs : List Value) (w : World)
    (hbk : LibA.Three w b q T R (.slice (some ⟨g, 0, none⟩) l cap) (.int .i64 0) (.int .i8 lr))
    (hl : bs.length = l) (hg : w.heap[g]? = some (.cells cur 5 (0, 0))) (hlc : l ≤ cap) (hcm : cap ≤ maxLen) (hcs : cur.size = cap) (htake : cur.toList.take l = bs) (hgb : g ≠ b)
    (h1 : ∀ v ∈ bs, v.oneCell' = true) (hn : 1 ≤ n) (hroom : cap - l < n) (hlim : l + n ≤ 140737488355328) :
    Calls Ybad.prog 18 #[.pointer (some ⟨b, q, none⟩), .int .i64 n] w fun e w' => e = .returned (.int .i64 l) ∧ GrownRow w w' b q T R lr l n bs := by
  by_cases h0 : l = 0
  · exact grow_row0 T R b q g l cap n lr cur bs w hbk h0 hl hg hlc hcm hcs htake hgb h1 hn hroom hlim
  · exact grow_row1 T R b q g l cap n lr cur bs w hbk h0 hl hg hlc hcm hcs htake hgb h1 hn hroom hlim

/-- behind grow: 'copy(b.buf[m:], p)'. -/
theorem write_end {w w1 : World} {b q T : Nat} {R : Nat → Option Value} {lr : Int} {l n cap : Nat} {bs cs : List Value} {own : Option Nat} {cells : Array Value} {g : Nat} (hfr : Fr w w1 b own) (hown : own = some g ∨ w.heap.size ≤ g) (hgb : g ≠ b)
    (h3 : LibA.Three w1 b q T R (.slice (some ⟨g, 0, none⟩) (l + n) cap) (.int .i64 0) (.int .i8 lr)) (hg : w1.heap[g]? = some (.cells cells 5 (0, 0))) (hl : bs.length = l) (hn : cs.length = n)
    (hcap : l + n ≤ cap) (hcm : cap ≤ maxLen) (hcs : cells.size = cap) (htk : cells.toList.take l = bs) :
    ∃ own', Buf (w1.setRow g (cells.toList.take l ++ cs ++ cells.toList.drop (l + cs.length)).toArray) b q T R (bs ++ cs) own' ∧ (own' = own ∨ ∃ N, own' = some N ∧ w.heap.size ≤ N) ∧ Fr w (w1.setRow g (cells.toList.take l ++ cs ++ cells.toList.drop (l + cs.length)).toArray) b own := by
  refine ⟨some g, row_written h3 hg hl hn hcap hcm hcs htk hgb, ?_, ?_⟩
  · rcases hown with h | h
    · exact .inl h.symm
    · exact .inr ⟨g, rfl, h⟩
  · rcases hown with h | h
    · subst h; exact hfr.trans (Fr.setRow _)
    · exact hfr.setRow_new h _

set_option maxHeartbeats 4000000 in
set_option maxRecDepth 100000 in
/-- (*bytes.Buffer).Write of n bytes, n at least 1, that lie neither in the struct nor in the buffer's own row. -/
theorem write_some (b q T : Nat) (R : Nat → Option Value) (bs cs : List Value) (own : Option Nat) (a : Addr) (n c : Nat) (w : World) (h : Buf w b q T R bs own) (h1 : ∀ v ∈ bs, v.oneCell' = true)
    (hn : cs.length = n) (hn1 : 1 ≤ n) (hab : a.block ≠ b) (hao : some a.block ≠ own) (hsrc : ∀ j v, cs[j]? = some v → w.cell? (a.add j) = some v) (h1c : ∀ v ∈ cs, v.oneCell' = true) (hlim : bs.length + n ≤ 140737488355328) :
    Calls Ybad.prog 7 #[.pointer (some ⟨b, q, none⟩), .slice (some a) n c] w fun e w' => e = .returned (.tuple #[.int .i64 n, .nilIface]) ∧ ∃ own', Buf w' b q T R (bs ++ cs) own' ∧ (own' = own ∨ ∃ N, own' = some N ∧ w.heap.size ≤ N) ∧ Fr w w' b own := by
  have hsrc1 : ∀ W1, Fr w W1 b own → ∀ j v, cs[j]? = some v → W1.cell? (a.add j) = some v := fun W1 hf j v hj => by
    have hc := hsrc j v hj
    have hlt := World.block_lt_of_cell? w _ hc
    rw [Lib.block_add] at hlt
    exact (World.cell?_of_block (w := w) (by rw [Lib.block_add]; exact hf.block a.block hlt hab hao)).trans hc
  have HSRC : Hid (∀ W1, Fr w W1 b own → ∀ j v, cs[j]? = some v → W1.cell? (a.add j) = some v) := hsrc1
  obtain ⟨lr, ⟨rfl, rfl, h3⟩ | ⟨g, cap, cur, rfl, h3, hg, h2, h4, h5, h6, h7⟩⟩ := h
  · have c2 := h3.c2
    have f2 := h3.f (q + 2)
    have k3 := h3.set2 (.int .i8 0)
    have d0 := k3.c0
    have hw1 : Fr w (w.setCell ⟨b, q + 2, none⟩ (.int .i8 0)) b none := Fr.of_grown (Lib.grownBy_setCell w b (q + 2) _)
    have K3 : Hid (LibA.Three (w.setCell ⟨b, q + 2, none⟩ (.int .i8 0)) b q T R (.slice none 0 0) (.int .i64 0) (.int .i8 0)) := k3
    have HW1 : Hid (Fr w (w.setCell ⟨b, q + 2, none⟩ (.int .i8 0)) b none) := hw1
    have hbw := h3.lt
    clear k3 h3 hsrc hsrc1 hw1
    go_enter Ybad.func7, Ybad.ntmps7
    go_wp2_with (go_at_call 17; refine (Ybad.Buffer_tryGrow_none_at b q none 0 0 n _ d0 (Nat.le_refl _) (Nat.zero_le _) (by omega)).mono ?_; rintro e w' ⟨rfl, rfl⟩)
    refine (grow_nil T R b q n 0 _ K3.out hn1 (by simpa using hlim)).mono ?_
    rintro e W1 ⟨rfl, cap2, cells, t3, tN, tsz, tcm, tcap, ttk, tg⟩
    have hsz : (w.setCell ⟨b, q + 2, none⟩ (.int .i8 0)).heap.size = w.heap.size := by simp
    rw [hsz] at t3 tN
    have hfr : Fr w W1 b none := HW1.out.trans (Fr.of_grown tg)
    have hcp := run_copy_row (P := Ybad.prog) W1 22 22 3 5 w.heap.size 0 n cap2 a n c cells 5 cs Ybad.underlying22 size5 tN (by rw [hn]; exact (Nat.min_self n).symm) (HSRC.out W1 hfr) (by rw [hn]; omega) h1c
    have HE := write_end (bs := []) (cs := cs) (l := 0) hfr (.inr (Nat.le_refl _)) (by omega) t3 tN rfl hn tcap tcm tsz ttk
    have HEND : Hid (∃ own', Buf (W1.setRow w.heap.size (cells.toList.take 0 ++ cs ++ cells.toList.drop (0 + cs.length)).toArray) b q T R ([] ++ cs) own' ∧ (own' = none ∨ ∃ N, own' = some N ∧ w.heap.size ≤ N) ∧ Fr w (W1.setRow w.heap.size (cells.toList.take 0 ++ cs ++ cells.toList.drop (0 + cs.length)).toArray) b none) := HE
    generalize (cells.toList.take 0 ++ cs ++ cells.toList.drop (0 + cs.length)).toArray = Y at hcp HEND
    rw [hn] at hcp
    have c0 := t3.c0
    rw [Nat.zero_add] at c0
    unfold maxLen at tcm
    clear HE hsz t3 tN ttk tg HSRC K3 HW1 d0 c2 f2 hfr
    go_wp2
    go_ret2
    exact ⟨rfl, HEND.out⟩
  · have c2 := h3.c2
    have f2 := h3.f (q + 2)
    have k3 := h3.set2 (.int .i8 0)
    have d0 := k3.c0
    have e0 := k3.f q
    have hgg : (w.setCell ⟨b, q + 2, none⟩ (.int .i8 0)).heap[g]? = some (.cells cur 5 (0, 0)) := by rw [Below.heap_setCell _ _ _ _ h7]; exact hg
    have HW1 : Hid (Fr w (w.setCell ⟨b, q + 2, none⟩ (.int .i8 0)) b (some g)) := Fr.of_grown (Lib.grownBy_setCell w b (q + 2) _)
    have hbw := h3.lt
    have h4' := h4
    unfold maxLen at h4'
    by_cases hroom : n ≤ cap - bs.length
    · have t3 := k3.set0 (.slice (some ⟨g, 0, none⟩) (bs.length + n) cap)
      have tN : ((w.setCell ⟨b, q + 2, none⟩ (.int .i8 0)).setCell ⟨b, q, none⟩ (.slice (some ⟨g, 0, none⟩) (bs.length + n) cap)).heap[g]? = some (.cells cur 5 (0, 0)) := by rw [Below.heap_setCell _ _ _ _ h7]; exact hgg
      have hfr : Fr w ((w.setCell ⟨b, q + 2, none⟩ (.int .i8 0)).setCell ⟨b, q, none⟩ (.slice (some ⟨g, 0, none⟩) (bs.length + n) cap)) b (some g) := HW1.out.trans (Fr.of_grown (Lib.grownBy_setCell _ b q _))
      have hcp := run_copy_row (P := Ybad.prog) _ 22 22 3 5 g bs.length n (cap - bs.length) a n c cur 5 cs Ybad.underlying22 size5 tN (by rw [hn]; exact (Nat.min_self n).symm) (HSRC.out _ hfr) (by rw [hn]; omega) h1c
      have HE := write_end (bs := bs) (cs := cs) (l := bs.length) hfr (.inl rfl) h7 t3 tN rfl hn (by omega) h4 h5 h6
      have c0 := t3.c0
      have HEND : Hid (∃ own', Buf (((w.setCell ⟨b, q + 2, none⟩ (.int .i8 0)).setCell ⟨b, q, none⟩ (.slice (some ⟨g, 0, none⟩) (bs.length + n) cap)).setRow g (cur.toList.take bs.length ++ cs ++ cur.toList.drop (bs.length + cs.length)).toArray) b q T R (bs ++ cs) own' ∧ (own' = some g ∨ ∃ N, own' = some N ∧ w.heap.size ≤ N) ∧ Fr w (((w.setCell ⟨b, q + 2, none⟩ (.int .i8 0)).setCell ⟨b, q, none⟩ (.slice (some ⟨g, 0, none⟩) (bs.length + n) cap)).setRow g (cur.toList.take bs.length ++ cs ++ cur.toList.drop (bs.length + cs.length)).toArray) b (some g)) := HE
      generalize (cur.toList.take bs.length ++ cs ++ cur.toList.drop (bs.length + cs.length)).toArray = Y at hcp HEND
      rw [hn] at hcp
      have hne : ¬ cap = bs.length := by omega
      clear HE t3 tN HSRC h3 k3 hgg HW1 hfr hsrc hsrc1
      go_enter Ybad.func7, Ybad.ntmps7
      go_wp2_with (go_at_call 17; refine (Ybad.Buffer_tryGrow_room_at b q _ bs.length cap n _ d0 e0 h2 h4 hroom).mono ?_; rintro e w' ⟨rfl, rfl⟩)
      go_ret2
      exact ⟨rfl, HEND.out⟩
    · have K3 : Hid (LibA.Three (w.setCell ⟨b, q + 2, none⟩ (.int .i8 0)) b q T R (.slice (some ⟨g, 0, none⟩) bs.length cap) (.int .i64 0) (.int .i8 0)) := k3
      have HGG : Hid ((w.setCell ⟨b, q + 2, none⟩ (.int .i8 0)).heap[g]? = some (.cells cur 5 (0, 0))) := hgg
      clear k3 h3 hsrc hsrc1 hgg
      go_enter Ybad.func7, Ybad.ntmps7
      go_wp2_with (go_at_call 17; refine (Ybad.Buffer_tryGrow_none_at b q _ bs.length cap n _ d0 h2 h4 (by omega)).mono ?_; rintro e w' ⟨rfl, rfl⟩)
      refine (grow_row T R b q g bs.length cap n 0 cur bs _ K3.out rfl HGG.out h2 h4 h5 h6 h7 h1 hn1 (by omega) hlim).mono ?_
      rintro e W1 ⟨rfl, cap2, cells, t3, tN, tsz, tcm, tcap, ttk, tg⟩
      have hsz : (w.setCell ⟨b, q + 2, none⟩ (.int .i8 0)).heap.size = w.heap.size := by simp
      rw [hsz] at t3 tN
      have hfr : Fr w W1 b (some g) := HW1.out.trans (Fr.of_grown tg)
      have hcp := run_copy_row (P := Ybad.prog) W1 22 22 3 5 w.heap.size bs.length n (cap2 - bs.length) a n c cells 5 cs Ybad.underlying22 size5 tN (by rw [hn]; exact (Nat.min_self n).symm) (HSRC.out W1 hfr) (by rw [hn]; omega) h1c
      have HE := write_end (bs := bs) (cs := cs) (l := bs.length) hfr (.inr (Nat.le_refl _)) (by omega) t3 tN rfl hn tcap tcm tsz ttk
      have HEND : Hid (∃ own', Buf (W1.setRow w.heap.size (cells.toList.take bs.length ++ cs ++ cells.toList.drop (bs.length + cs.length)).toArray) b q T R (bs ++ cs) own' ∧ (own' = some g ∨ ∃ N, own' = some N ∧ w.heap.size ≤ N) ∧ Fr w (W1.setRow w.heap.size (cells.toList.take bs.length ++ cs ++ cells.toList.drop (bs.length + cs.length)).toArray) b (some g)) := HE
      generalize (cells.toList.take bs.length ++ cs ++ cells.toList.drop (bs.length + cs.length)).toArray = Y at hcp HEND
      rw [hn] at hcp
      have c0 := t3.c0
      have hne : ¬ cap2 = bs.length := by omega
      unfold maxLen at tcm
      clear HE hsz t3 tN ttk tg HSRC K3 HGG HW1 d0 e0 c2 f2 hfr
      go_wp2
      go_ret2
      exact ⟨rfl, HEND.out⟩

end Go.Proofs.YbulkdmkcDoor
