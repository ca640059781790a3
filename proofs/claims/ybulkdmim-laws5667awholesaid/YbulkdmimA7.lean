import Derived.Test.YbulkdmimA6
namespace Go.Proofs.Ybulkdmim
open Go.RowKit

theorem info2 : (Yba.prog.info? 2).map (fun i => (i.zero, i.size, i.bytes)) = some (some (.int .i64 0), 1, 8) := by kernel_rfl
theorem info3' : (Yba.prog.info? 3).map (fun i => (i.zero, i.size, i.bytes)) = some (some (.int .i64 0), 1, 8) := by kernel_rfl
theorem info4 : (Yba.prog.info? 4).map (fun i => (i.zero, i.size, i.bytes)) = some (some (.bool false), 1, 1) := by kernel_rfl

theorem mk1 (t e : TypeId) (z : Value) (bytes n : Nat) (ht : Yba.prog.underlying t = some (.slice e)) (hi : (Yba.prog.info? e).map (fun i => (i.zero, i.size, i.bytes)) = some (some z, 1, bytes)) (hz1 : z.cells = #[z]) (hb : bytes ≤ 8) (hn : n ≤ 1048576) (w : World) :
    (Instr.makeSlice t (.int .i64 ((n : Int) + 1)) (.int .i64 ((n : Int) + 1))).run Yba.prog w = .ok (.slice (some ⟨w.heap.size, 0, none⟩) (n + 1) (n + 1)) (w.alloc (.cells (madeCells #[z] (n + 1)) e)) := by
  have h := run_make_row' (P := Yba.prog) t e z bytes ht hi hz1 .i64 .i64 (n + 1) (by have := Nat.mul_le_mul hb (show n + 1 ≤ 1048577 by omega); omega) (by omega) w
  rwa [show ((n + 1 : Nat) : Int) = (n : Int) + 1 from by omega] at h

def lineCells (key seq ci : Int) : Array Value :=
  #[.pointer none, .int .i64 0, .slice none 0 0, .bool false, .bool false, .int .i64 0, .int .i64 0, .int .i64 0, .int .i64 0, .pointer none, .int .i64 0, .int .i64 0, .bool false, .int .i64 0, .slice none 0 0, .int .u64 0,
    .int .i64 0, .int .i64 0, .pointer none, .pointer none, .pointer none, .int .i64 0, .int .i64 0, .int .i64 0, .int .i64 seq, .int .i64 0, .int .i64 key, .int .i64 ci]

/-- Behind k rounds of the first loop. -/
structure Laid (w : World) (B n : Nat) (Pk Ck : Nat → Int) (k : Nat) (wr : World) : Prop where
  lines : wr.rowIs B 26 (n + 1) (fun i => if i < k then .pointer (some ⟨B + 4 + i, 0, none⟩) else .pointer none)
  heap : wr.rowIs (B + 1) 26 n (fun i => if i < k then .pointer (some ⟨B + 4 + i, 0, none⟩) else .pointer none)
  var : wr.cell? ⟨B + 1 + 1, 0, none⟩ = some (.slice (some ⟨B + 1, 0, none⟩) n n)
  frv : wr.frozen? ⟨B + 1 + 1, 0, none⟩ = false
  orig : wr.rowIs (B + 1 + 1 + 1) 3 (n + 1) (fun i => if i < k then .int .i64 (Ck i) else .int .i64 0)
  line : ∀ i, i < k → wr.heap[B + 4 + i]? = some (.cells (lineCells (Pk i) i (Ck i)) 46 (0, 0))
  size : wr.heap.size = B + 4 + k
  bel : Below B w wr

theorem laid_start (w : World) (n : Nat) (Pk Ck : Nat → Int) :
    Laid w w.heap.size n Pk Ck 0 ((((w.alloc (Obj.cells (madeCells #[Value.pointer none] (n + 1)) 26)).alloc (Obj.cells (madeCells #[Value.pointer none] n) 26)).alloc
          (Obj.cells #[Value.slice (some ⟨w.heap.size + 1, 0, none⟩) n n] 25)).alloc (Obj.cells (madeCells #[Value.int IntKind.i64 0] (n + 1)) 3)) := by
  have s1 : (w.alloc (Obj.cells (madeCells #[Value.pointer none] (n + 1)) 26)).heap.size = w.heap.size + 1 := by simp
  have s2 : ((w.alloc (Obj.cells (madeCells #[Value.pointer none] (n + 1)) 26)).alloc (Obj.cells (madeCells #[Value.pointer none] n) 26)).heap.size = w.heap.size + 1 + 1 := by simp
  have s3 : (((w.alloc (Obj.cells (madeCells #[Value.pointer none] (n + 1)) 26)).alloc (Obj.cells (madeCells #[Value.pointer none] n) 26)).alloc
          (Obj.cells #[Value.slice (some ⟨w.heap.size + 1, 0, none⟩) n n] 25)).heap.size = w.heap.size + 1 + 1 + 1 := by simp
  refine ⟨?_, ?_, ?_, ?_, ?_, fun i hi => absurd hi (by omega), by simp, ?_⟩
  · exact (((World.rowIs_made w (.pointer none) (n + 1) 26).alloc _).alloc _).alloc _ |>.congr (fun i _ => by simp)
  · have := World.rowIs_made (w.alloc (Obj.cells (madeCells #[Value.pointer none] (n + 1)) 26)) (.pointer none) n 26
    rw [s1] at this
    exact (this.alloc _).alloc _ |>.congr (fun i _ => by simp)
  · rw [World.cell?_alloc_past _ _ _ (by rw [s3]; omega), World.cell?_alloc_at _ _ _ _ s2.symm]; rfl
  · rw [World.frozen?_alloc_past _ _ _ (by rw [s3]; omega), World.frozen?_alloc_at _ _ _ _ s2.symm]
  · have := World.rowIs_made (((w.alloc (Obj.cells (madeCells #[Value.pointer none] (n + 1)) 26)).alloc (Obj.cells (madeCells #[Value.pointer none] n) 26)).alloc
          (Obj.cells #[Value.slice (some ⟨w.heap.size + 1, 0, none⟩) n n] 25)) (.int .i64 0) (n + 1) 3
    rw [s3] at this
    exact this.congr (fun i _ => by simp)
  · exact ((((Below.refl _ w).alloc (Nat.le_refl _) _).alloc (by simp) _).alloc (by simp; omega) _).alloc (by simp; omega) _

theorem laid_step {w wr : World} {B n k : Nat} {Pk Ck : Nat → Int} (h : Laid w B n Pk Ck k wr) (hk : k < n) (c : Int) (hc : Ck k = c) :
    Laid w B n Pk Ck (k + 1) ((((wr.setCell ⟨B, k, none⟩ (.pointer (some ⟨wr.heap.size, 0, none⟩))).setCell ⟨B + 1, k, none⟩ (.pointer (some ⟨wr.heap.size, 0, none⟩))).setCell ⟨B + 1 + 1 + 1, k, none⟩ (.int .i64 c)).alloc (.cells (lineCells (Pk k) k c) 46)) := by
  subst hc
  have hs := h.size
  have hs2 : (((wr.setCell ⟨B, k, none⟩ (.pointer (some ⟨wr.heap.size, 0, none⟩))).setCell ⟨B + 1, k, none⟩ (.pointer (some ⟨wr.heap.size, 0, none⟩))).setCell ⟨B + 1 + 1 + 1, k, none⟩ (.int .i64 (Ck k))).heap.size = B + 4 + k := by simp; omega
  refine ⟨?_, ?_, ?_, ?_, ?_, fun i hi => ?_, by simp; omega, ?_⟩
  · refine ((((h.lines.set k _).setOther (by show B ≠ B + 1; omega) _).setOther (by show B ≠ B + 1 + 1 + 1; omega) _).alloc _).congr fun i _ => ?_
    by_cases e : i = k
    · rw [if_pos e, if_pos (by omega), hs, e]
    · rw [if_neg e]
      by_cases e2 : i < k
      · rw [if_pos e2, if_pos (by omega)]
      · rw [if_neg e2, if_neg (by omega)]
  · refine ((((h.heap.setOther (by show B + 1 ≠ B; omega) _).set k _).setOther (by show B + 1 ≠ B + 1 + 1 + 1; omega) _).alloc _).congr fun i _ => ?_
    by_cases e : i = k
    · rw [if_pos e, if_pos (by omega), hs, e]
    · rw [if_neg e]
      by_cases e2 : i < k
      · rw [if_pos e2, if_pos (by omega)]
      · rw [if_neg e2, if_neg (by omega)]
  · rw [World.cell?_alloc_past _ _ _ (by rw [hs2]; omega), World.cell?_setCell_other _ _ _ _ (by intro e; injection e; omega), World.cell?_setCell_other _ _ _ _ (by intro e; injection e; omega), World.cell?_setCell_other _ _ _ _ (by intro e; injection e; omega)]
    exact h.var
  · rw [frozen?_alloc_cells, World.frozen?_setCell, World.frozen?_setCell, World.frozen?_setCell]; exact h.frv
  · refine ((((h.orig.setOther (by show B + 1 + 1 + 1 ≠ B; omega) _).setOther (by show B + 1 + 1 + 1 ≠ B + 1; omega) _).set k _).alloc _).congr fun i _ => ?_
    by_cases e : i = k
    · rw [if_pos e, if_pos (by omega), e]
    · rw [if_neg e]
      by_cases e2 : i < k
      · rw [if_pos e2, if_pos (by omega)]
      · rw [if_neg e2, if_neg (by omega)]
  · by_cases e : i < k
    · rw [Below.heap_alloc _ _ _ (by rw [hs2]; omega), Below.heap_setCell _ _ _ _ (by show B + 4 + i ≠ B + 1 + 1 + 1; omega), Below.heap_setCell _ _ _ _ (by show B + 4 + i ≠ B + 1; omega), Below.heap_setCell _ _ _ _ (by show B + 4 + i ≠ B; omega)]
      exact h.line i e
    · obtain rfl : i = k := by omega
      rw [← hs2]; exact heap_alloc_new _ _
  · exact (((h.bel.setCell (p := ⟨B, k, none⟩) (Nat.le_refl _) _).setCell (p := ⟨B + 1, k, none⟩) (by show B ≤ B + 1; omega) _).setCell (p := ⟨B + 1 + 1 + 1, k, none⟩) (by show B ≤ B + 1 + 1 + 1; omega) _).alloc (by rw [hs2]; omega) _

end Go.Proofs.Ybulkdmim
