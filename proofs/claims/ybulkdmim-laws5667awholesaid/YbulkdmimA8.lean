import Derived.Test.YbulkdmimA7
import Derived.Lib.Builder
namespace Go.Proofs.Ybulkdmim
open Go.RowKit

/-- The heap's side, laid whole: n lines in the heap, one more beside. -/
structure Base (B n : Nat) (P O : Nat → Int) (W : World) : Prop where
  lines : W.rowIs B 26 (n + 1) (fun i => .pointer (some ⟨B + 4 + i, 0, none⟩))
  heap : W.rowIs (B + 1) 26 n (fun i => .pointer (some ⟨B + 4 + i, 0, none⟩))
  var : W.cell? ⟨B + 1 + 1, 0, none⟩ = some (.slice (some ⟨B + 1, 0, none⟩) n n)
  frv : W.frozen? ⟨B + 1 + 1, 0, none⟩ = false
  orig : W.rowIs (B + 1 + 1 + 1) 3 (n + 1) (fun i => .int .i64 (O i))
  line : ∀ i, i < n + 1 → ∃ c, W.heap[B + 4 + i]? = some (.cells (lineCells (P i) i c) 46 (0, 0)) ∧ (i < n → c = O i)
  size : W.heap.size = B + 4 + n + 1

theorem base_of {w wr : World} {B n : Nat} {P Ck O : Nat → Int} (h : Laid w B n P Ck n wr) (hO : ∀ i, i < n → O i = Ck i) (hn : O n = 0) :
    Base B n P O ((wr.setCell ⟨B, n, none⟩ (.pointer (some ⟨B + 4 + n, 0, none⟩))).alloc (.cells (lineCells (P n) n (-1)) 46)) ∧
    Below B w ((wr.setCell ⟨B, n, none⟩ (.pointer (some ⟨B + 4 + n, 0, none⟩))).alloc (.cells (lineCells (P n) n (-1)) 46)) := by
  have hs := h.size
  have hs2 : (wr.setCell ⟨B, n, none⟩ (.pointer (some ⟨B + 4 + n, 0, none⟩))).heap.size = B + 4 + n := by simp; omega
  refine ⟨⟨?_, ?_, ?_, ?_, ?_, fun i hi => ?_, by simp; omega⟩, ?_⟩
  · refine ((h.lines.set n _).alloc _).congr fun i hi => ?_
    by_cases e : i = n
    · rw [if_pos e, e]
    · rw [if_neg e, if_pos (by omega)]
  · refine ((h.heap.setOther (by show B + 1 ≠ B; omega) _).alloc _).congr fun i hi => ?_
    rw [if_pos hi]
  · rw [World.cell?_alloc_past _ _ _ (by rw [hs2]; omega), World.cell?_setCell_other _ _ _ _ (by intro e; injection e; omega)]; exact h.var
  · rw [frozen?_alloc_cells, World.frozen?_setCell]; exact h.frv
  · refine ((h.orig.setOther (by show B + 1 + 1 + 1 ≠ B; omega) _).alloc _).congr fun i hi => ?_
    by_cases e : i < n
    · rw [if_pos e, hO i e]
    · rw [if_neg e, show i = n by omega, hn]
  · by_cases e : i < n
    · exact ⟨O i, by rw [Below.heap_alloc _ _ _ (by rw [hs2]; omega), Below.heap_setCell _ _ _ _ (by show B + 4 + i ≠ B; omega), hO i e]; exact h.line i e, fun _ => rfl⟩
    · obtain rfl : i = n := by omega
      have hnew := heap_alloc_new (wr.setCell ⟨B, i, none⟩ (.pointer (some ⟨B + 4 + i, 0, none⟩))) (.cells (lineCells (P i) i (-1)) 46)
      rw [hs2] at hnew
      exact ⟨-1, hnew, fun h => absurd h (by omega)⟩
  · exact (h.bel.setCell (p := ⟨B, n, none⟩) (Nat.le_refl _) _).alloc (by rw [hs2]; omega) _

/-- What is laid below the model's arrays stands across whatever is written from there on. -/
theorem Base.stands {B n : Nat} {P O : Nat → Int} {W W' : World} (h : Base B n P O W) (hb : Below (B + 4 + n + 1) W W') :
    W'.rowIs B 26 (n + 1) (fun i => .pointer (some ⟨B + 4 + i, 0, none⟩)) ∧
    (∀ p, p < n → W'.cell? ⟨B + 1, p, none⟩ = some (.pointer (some ⟨B + 4 + p, 0, none⟩))) ∧
    W'.cell? ⟨B + 1 + 1, 0, none⟩ = some (.slice (some ⟨B + 1, 0, none⟩) n n) ∧ W'.frozen? ⟨B + 1 + 1, 0, none⟩ = false ∧
    W'.rowIs (B + 1 + 1 + 1) 3 (n + 1) (fun i => .int .i64 (O i)) ∧
    (∀ i, i < n + 1 → W'.cell? ⟨B + 4 + i, 24, none⟩ = some (.int .i64 i)) ∧
    (∀ i, i < n + 1 → W'.cell? ⟨B + 4 + i, 26, none⟩ = some (.int .i64 (P i))) ∧
    (∀ i, i < n → W'.cell? ⟨B + 4 + i, 27, none⟩ = some (.int .i64 (O i))) ∧ (∃ c0, W'.cell? ⟨B + 4 + n, 27, none⟩ = some c0) ∧
    (∀ i, i < n + 1 → W'.frozen? ⟨B + 4 + i, 27, none⟩ = false) := by
  have hl : ∀ i, i < n + 1 → ∃ c, W'.heap[B + 4 + i]? = some (.cells (lineCells (P i) i c) 46 (0, 0)) ∧ (i < n → c = O i) := by
    intro i hi
    obtain ⟨c, h1, h2⟩ := h.line i hi
    exact ⟨c, (hb.block _ (by omega)).trans h1, h2⟩
  refine ⟨h.lines.of_block (hb.block _ (by omega)), fun p hp => (h.heap.of_block (hb.block _ (by omega))).cell hp, (hb.cell (p := ⟨B + 1 + 1, 0, none⟩) (by show B + 1 + 1 < _; omega)).trans h.var,
    (hb.frozen (p := ⟨B + 1 + 1, 0, none⟩) (by show B + 1 + 1 < _; omega)).trans h.frv, h.orig.of_block (hb.block _ (by omega)), fun i hi => ?_, fun i hi => ?_, fun i hi => ?_, ?_, fun i hi => ?_⟩
  · obtain ⟨c, h1, _⟩ := hl i hi
    simp [World.cell?, h1, lineCells]
  · obtain ⟨c, h1, _⟩ := hl i hi
    simp [World.cell?, h1, lineCells]
  · obtain ⟨c, h1, h2⟩ := hl i (by omega)
    rw [← h2 hi]
    simp [World.cell?, h1, lineCells]
  · obtain ⟨c, h1, _⟩ := hl n (by omega)
    exact ⟨.int .i64 c, by simp [World.cell?, h1, lineCells]⟩
  · obtain ⟨c, h1, _⟩ := hl i hi
    simp [World.frozen?, h1]

/-- The model's arrays behind k rounds of the second loop. -/
structure Mod2 (W : World) (C n : Nat) (P : Nat → Int) (k : Nat) (wr : World) : Prop where
  vals : wr.rowIs C 2 (n + 1) (fun i => if i < k then .int .i64 (P i) else .int .i64 0)
  ids : wr.rowIs (C + 1) 3 (n + 1) (fun i => if i < k then .int .i64 i else .int .i64 0)
  mv : wr.rowIs (C + 1 + 1) 4 (n + 1) (fun _ => .bool false)
  bel : Below C W wr
  size : wr.heap.size = C + 1 + 1 + 1

theorem mod2_start (W : World) (C n : Nat) (P : Nat → Int) (hC : W.heap.size = C) :
    Mod2 W C n P 0 (((W.alloc (Obj.cells (madeCells #[Value.int IntKind.i64 0] (n + 1)) 2)).alloc (Obj.cells (madeCells #[Value.int IntKind.i64 0] (n + 1)) 3)).alloc (Obj.cells (madeCells #[Value.bool false] (n + 1)) 4)) := by
  subst hC
  have s1 : (W.alloc (Obj.cells (madeCells #[Value.int IntKind.i64 0] (n + 1)) 2)).heap.size = W.heap.size + 1 := by simp
  have s2 : ((W.alloc (Obj.cells (madeCells #[Value.int IntKind.i64 0] (n + 1)) 2)).alloc (Obj.cells (madeCells #[Value.int IntKind.i64 0] (n + 1)) 3)).heap.size = W.heap.size + 1 + 1 := by simp
  refine ⟨?_, ?_, ?_, ?_, by simp⟩
  · exact ((World.rowIs_made W (.int .i64 0) (n + 1) 2).alloc _).alloc _ |>.congr (fun i _ => by simp)
  · have := World.rowIs_made (W.alloc (Obj.cells (madeCells #[Value.int IntKind.i64 0] (n + 1)) 2)) (.int .i64 0) (n + 1) 3
    rw [s1] at this
    exact (this.alloc _).congr (fun i _ => by simp)
  · have := World.rowIs_made ((W.alloc (Obj.cells (madeCells #[Value.int IntKind.i64 0] (n + 1)) 2)).alloc (Obj.cells (madeCells #[Value.int IntKind.i64 0] (n + 1)) 3)) (.bool false) (n + 1) 4
    rw [s2] at this
    exact this
  · exact (((Below.refl _ W).alloc (Nat.le_refl _) _).alloc (by simp) _).alloc (by simp; omega) _

theorem mod2_step {W wr : World} {C n k : Nat} {P : Nat → Int} (h : Mod2 W C n P k wr) :
    Mod2 W C n P (k + 1) ((wr.setCell ⟨C, k, none⟩ (.int .i64 (P k))).setCell ⟨C + 1, k, none⟩ (.int .i64 k)) := by
  refine ⟨?_, ?_, (h.mv.setOther (by show C + 1 + 1 ≠ C; omega) _).setOther (by show C + 1 + 1 ≠ C + 1; omega) _, (h.bel.setCell (p := ⟨C, k, none⟩) (Nat.le_refl _) _).setCell (p := ⟨C + 1, k, none⟩) (by show C ≤ C + 1; omega) _, by simp [h.size]⟩
  · refine ((h.vals.set k _).setOther (by show C ≠ C + 1; omega) _).congr fun i _ => ?_
    by_cases e : i = k
    · rw [if_pos e, if_pos (by omega), e]
    · rw [if_neg e]
      by_cases e2 : i < k
      · rw [if_pos e2, if_pos (by omega)]
      · rw [if_neg e2, if_neg (by omega)]
  · refine ((h.ids.setOther (by show C + 1 ≠ C; omega) _).set k _).congr fun i _ => ?_
    by_cases e : i = k
    · rw [if_pos e, if_pos (by omega), e]
    · rw [if_neg e]
      by_cases e2 : i < k
      · rw [if_pos e2, if_pos (by omega)]
      · rw [if_neg e2, if_neg (by omega)]

/-- The model's arrays in the third loop. -/
structure Mod3 (W : World) (C n : Nat) (P : Nat → Int) (s : Sift.St) (wr : World) : Prop where
  vals : wr.rowIs C 2 (n + 1) (fun p => .int .i64 (P (s.ids p)))
  ids : wr.rowIs (C + 1) 3 (n + 1) (fun p => .int .i64 (s.ids p))
  mv : wr.rowIs (C + 1 + 1) 4 (n + 1) (fun i => .bool (s.mv i))
  bel : Below C W wr
  size : wr.heap.size = C + 1 + 1 + 1

theorem Mod3.drewN {W wr : World} {C n : Nat} {P : Nat → Int} {s : Sift.St} (h : Mod3 W C n P s wr) (m : Nat) : Mod3 W C n P s (wr.drewN m) := ⟨h.vals, h.ids, h.mv, below_drewN h.bel m, h.size⟩

theorem mod3_start {W wr : World} {C n : Nat} {P O : Nat → Int} (h : Mod2 W C n P n wr) :
    Mod3 W C n P (Sift.start n O) (((wr.setCell ⟨C, n, none⟩ (.int .i64 (P n))).setCell ⟨C + 1, n, none⟩ (.int .i64 n)).setCell ⟨C + 1 + 1, n, none⟩ (.bool true)) := by
  refine ⟨?_, ?_, ?_, ((h.bel.setCell (p := ⟨C, n, none⟩) (Nat.le_refl _) _).setCell (p := ⟨C + 1, n, none⟩) (by show C ≤ C + 1; omega) _).setCell (p := ⟨C + 1 + 1, n, none⟩) (by show C ≤ C + 1 + 1; omega) _, by simp [h.size]⟩
  · refine (((h.vals.set n _).setOther (by show C ≠ C + 1; omega) _).setOther (by show C ≠ C + 1 + 1; omega) _).congr fun i hi => ?_
    show _ = Value.int .i64 (P i)
    by_cases e : i = n
    · rw [if_pos e, e]
    · rw [if_neg e, if_pos (by omega)]
  · refine (((h.ids.setOther (by show C + 1 ≠ C; omega) _).set n _).setOther (by show C + 1 ≠ C + 1 + 1; omega) _).congr fun i hi => ?_
    show _ = Value.int .i64 i
    by_cases e : i = n
    · rw [if_pos e, e]
    · rw [if_neg e, if_pos (by omega)]
  · refine (((h.mv.setOther (by show C + 1 + 1 ≠ C; omega) _).setOther (by show C + 1 + 1 ≠ C + 1; omega) _).set n _).congr fun i hi => ?_
    show _ = Value.bool (decide (i = n))
    by_cases e : i = n
    · rw [if_pos e]; simp [e]
    · rw [if_neg e]; simp [e]

theorem mod3_step {W wr : World} {C n j p : Nat} {P : Nat → Int} {s : Sift.St} (h : Mod3 W C n P s wr) (hne : j ≠ p) :
    Mod3 W C n P (Sift.step s j p) ((((((wr.setCell ⟨C, j, none⟩ (.int .i64 (P (s.ids p)))).setCell ⟨C, p, none⟩ (.int .i64 (P (s.ids j)))).setCell ⟨C + 1, j, none⟩ (.int .i64 (s.ids p))).setCell ⟨C + 1, p, none⟩ (.int .i64 (s.ids j))).setCell ⟨C + 1 + 1, s.ids p, none⟩ (.bool true)).setCell ⟨C + 1 + 1, s.ids j, none⟩ (.bool true)) := by
  refine ⟨?_, ?_, ?_, ?_, by simp [h.size]⟩
  · refine ((((((h.vals.set j _).set p _).setOther (by show C ≠ C + 1; omega) _).setOther (by show C ≠ C + 1; omega) _).setOther (by show C ≠ C + 1 + 1; omega) _).setOther (by show C ≠ C + 1 + 1; omega) _).congr fun i hi => ?_
    show _ = Value.int .i64 (P (if i = j then s.ids p else if i = p then s.ids j else s.ids i))
    by_cases e : i = p
    · rw [if_pos e, if_neg (by omega), if_pos e]
    · rw [if_neg e]
      by_cases e2 : i = j
      · rw [if_pos e2, if_pos e2]
      · rw [if_neg e2, if_neg e2, if_neg e]
  · refine ((((((h.ids.setOther (by show C + 1 ≠ C; omega) _).setOther (by show C + 1 ≠ C; omega) _).set j _).set p _).setOther (by show C + 1 ≠ C + 1 + 1; omega) _).setOther (by show C + 1 ≠ C + 1 + 1; omega) _).congr fun i hi => ?_
    show _ = Value.int .i64 (if i = j then s.ids p else if i = p then s.ids j else s.ids i : Nat)
    by_cases e : i = p
    · rw [if_pos e, if_neg (by omega), if_pos e]
    · rw [if_neg e]
      by_cases e2 : i = j
      · rw [if_pos e2, if_pos e2]
      · rw [if_neg e2, if_neg e2, if_neg e]
  · refine ((((((h.mv.setOther (by show C + 1 + 1 ≠ C; omega) _).setOther (by show C + 1 + 1 ≠ C; omega) _).setOther (by show C + 1 + 1 ≠ C + 1; omega) _).setOther (by show C + 1 + 1 ≠ C + 1; omega) _).set (s.ids p) _).set (s.ids j) _).congr fun i hi => ?_
    show _ = Value.bool (if i = s.ids j then true else if i = s.ids p then true else s.mv i)
    by_cases e : i = s.ids j
    · rw [if_pos e, if_pos e]
    · rw [if_neg e, if_neg e]
      by_cases e2 : i = s.ids p
      · rw [if_pos e2, if_pos e2]
      · rw [if_neg e2, if_neg e2]
  · exact (((((h.bel.setCell (p := ⟨C, j, none⟩) (Nat.le_refl _) _).setCell (p := ⟨C, p, none⟩) (Nat.le_refl _) _).setCell (p := ⟨C + 1, j, none⟩) (by show C ≤ C + 1; omega) _).setCell (p := ⟨C + 1, p, none⟩) (by show C ≤ C + 1; omega) _).setCell (p := ⟨C + 1 + 1, s.ids p, none⟩) (by show C ≤ C + 1 + 1; omega) _).setCell (p := ⟨C + 1 + 1, s.ids j, none⟩) (by show C ≤ C + 1 + 1; omega) _

/-- Behind the push: all that the last loop reads. -/
structure Fin (w : World) (B n g c C : Nat) (P O : Nat → Int) (F : Sift.St) : Prop where
  var : w.cell? ⟨B + 1 + 1, 0, none⟩ = some (.slice (some ⟨g, 0, none⟩) (n + 1) c)
  ptr : ∀ p, p < n + 1 → w.cell? ⟨g, p, none⟩ = some (.pointer (some ⟨B + 4 + F.ids p, 0, none⟩))
  lines : ∀ i, i < n + 1 → w.cell? ⟨B, i, none⟩ = some (.pointer (some ⟨B + 4 + i, 0, none⟩))
  orig : ∀ i, i < n + 1 → w.cell? ⟨B + 1 + 1 + 1, i, none⟩ = some (.int .i64 (O i))
  ids : ∀ p, p < n + 1 → w.cell? ⟨C + 1, p, none⟩ = some (.int .i64 (F.ids p))
  mv : ∀ i, i < n + 1 → w.cell? ⟨C + 1 + 1, i, none⟩ = some (.bool (F.mv i))
  seq : ∀ i, i < n + 1 → w.cell? ⟨B + 4 + i, 24, none⟩ = some (.int .i64 i)
  key : ∀ i, i < n + 1 → w.cell? ⟨B + 4 + i, 26, none⟩ = some (.int .i64 (P i))
  idx : ∀ i, i < n + 1 → w.cell? ⟨B + 4 + i, 27, none⟩ = some (.int .i64 (F.C i))

theorem fin_of {W w w' : World} {B n g c : Nat} {P O : Nat → Int} {F : Sift.St} (hb : Base B n P O W) (hM : Mod3 W (B + 4 + n + 1) n P F w)
    (hh : Heaped w' (B + 1 + 1) g (n + 1) c (B + 4) P F.ids F.C)
    (hfr : ∀ b o, b < w.heap.size → b ≠ B + 1 + 1 → ¬ (B + 4 ≤ b ∧ b < B + 4 + (n + 1) ∧ o = 27) → w'.cell? ⟨b, o, none⟩ = w.cell? ⟨b, o, none⟩) :
    Fin w' B n g c (B + 4 + n + 1) P O F := by
  obtain ⟨s1, s2, s3, s4, s5, s6, s7, s8, s9, s10⟩ := hb.stands hM.bel
  have hs := hM.size
  refine ⟨hh.var, hh.ptr, fun i hi => ?_, fun i hi => ?_, fun i hi => ?_, fun i hi => ?_, fun i hi => ?_, hh.key, hh.idx⟩
  · rw [hfr _ _ (by omega) (by omega) (by omega)]; exact s1.cell hi
  · rw [hfr _ _ (by omega) (by omega) (by omega)]; exact s5.cell hi
  · rw [hfr _ _ (by omega) (by omega) (by omega)]; exact hM.ids.cell hi
  · rw [hfr _ _ (by omega) (by omega) (by omega)]; exact hM.mv.cell hi
  · rw [hfr _ _ (by omega) (by omega) (by omega)]; exact s6 i hi

theorem info46 : Yba.prog.info? 46 = some Yba.t46 := by kernel_rfl
/-- 'p != p' on pointers to lines: false. -/
theorem neq_line_same (a : Addr) (w : World) : (binOp .neq 26 (.pointer (some a)) (.pointer (some a))).run Yba.prog w = .ok (.bool false) w := Lib.run_neq_ptr_same w a Yba.underlying26 info46

end Go.Proofs.Ybulkdmim
