import Derived.Test.YbulkdmjoB3
namespace Go.Proofs.Ybulkdmjo
open Go.RowKit

/-- Two rows side by side, the first k cells of each filled. -/
structure Two (w : World) (b n : Nat) (X : Nat → Int) (k : Nat) (wr : World) : Prop where
  fst : wr.rowIs b 24 n (fun i => if i < k then .int .u64 (X i) else .int .u64 0)
  snd : wr.rowIs (b + 1) 24 n (fun i => if i < k then .int .u64 (X i) else .int .u64 0)
  bel : Below b w wr
  size : wr.heap.size = b + 1 + 1

theorem two_start (w : World) (b n : Nat) (X : Nat → Int) (hb : w.heap.size = b) :
    Two w b n X 0 ((w.alloc (Obj.cells (madeCells #[Value.int IntKind.u64 0] n) 24)).alloc (Obj.cells (madeCells #[Value.int IntKind.u64 0] n) 24)) := by
  subst hb
  have s1 : (w.alloc (Obj.cells (madeCells #[Value.int IntKind.u64 0] n) 24)).heap.size = w.heap.size + 1 := by simp
  refine ⟨?_, ?_, ?_, by simp⟩
  · exact ((World.rowIs_made w (.int .u64 0) n 24).alloc _).congr (fun i _ => by simp)
  · have := World.rowIs_made (w.alloc (Obj.cells (madeCells #[Value.int IntKind.u64 0] n) 24)) (.int .u64 0) n 24
    rw [s1] at this
    exact this.congr (fun i _ => by simp)
  · exact ((Below.refl _ w).alloc (Nat.le_refl _) _).alloc (by simp) _

theorem two_step {w wr : World} {b n k : Nat} {X : Nat → Int} (h : Two w b n X k wr) (v : Int) (hv : X k = v) :
    Two w b n X (k + 1) ((wr.setCell ⟨b, k, none⟩ (.int .u64 v)).setCell ⟨b + 1, k, none⟩ (.int .u64 v)) := by
  refine ⟨?_, ?_, (h.bel.setCell (p := ⟨b, k, none⟩) (Nat.le_refl _) _).setCell (p := ⟨b + 1, k, none⟩) (by show b ≤ b + 1; omega) _, by simp [h.size]⟩
  · refine ((h.fst.set k _).setOther (by show b ≠ b + 1; omega) _).congr fun i _ => ?_
    by_cases e : i = k
    · rw [if_pos e, if_pos (by omega), e, hv]
    · rw [if_neg e]
      by_cases e2 : i < k
      · rw [if_pos e2, if_pos (by omega)]
      · rw [if_neg e2, if_neg (by omega)]
  · refine ((h.snd.setOther (by show b + 1 ≠ b; omega) _).set k _).congr fun i _ => ?_
    by_cases e : i = k
    · rw [if_pos e, if_pos (by omega), e, hv]
    · rw [if_neg e]
      by_cases e2 : i < k
      · rw [if_pos e2, if_pos (by omega)]
      · rw [if_neg e2, if_neg (by omega)]

theorem two_full {w wr : World} {b n : Nat} {X : Nat → Int} (h : Two w b n X n wr) :
    wr.rowIs b 24 n (fun i => .int .u64 (X i)) ∧ wr.rowIs (b + 1) 24 n (fun i => .int .u64 (X i)) :=
  ⟨h.fst.congr fun i hi => by rw [if_pos hi], h.snd.congr fun i hi => by rw [if_pos hi]⟩

/-- One row, its first k cells filled. -/
structure Fill (w : World) (b : Nat) (t : TypeId) (n : Nat) (f : Nat → Value) (z : Value) (k : Nat) (wr : World) : Prop where
  row : wr.rowIs b t n (fun i => if i < k then f i else z)
  bel : Below b w wr
  size : wr.heap.size = b + 1

theorem fill_start (w : World) (b : Nat) (t : TypeId) (n : Nat) (f : Nat → Value) (z : Value) (hb : w.heap.size = b) :
    Fill w b t n f z 0 (w.alloc (Obj.cells (madeCells #[z] n) t)) := by
  subst hb
  exact ⟨(World.rowIs_made w z n t).congr (fun i _ => by simp), (Below.refl _ _).alloc (Nat.le_refl _) _, by simp⟩

theorem fill_step {w wr : World} {b : Nat} {t : TypeId} {n k : Nat} {f : Nat → Value} {z : Value} (h : Fill w b t n f z k wr) (v : Value) (hv : f k = v) :
    Fill w b t n f z (k + 1) (wr.setCell ⟨b, k, none⟩ v) := by
  refine ⟨(h.row.set k _).congr fun q _ => ?_, h.bel.setCell (p := ⟨b, k, none⟩) (Nat.le_refl _) _, by simp [h.size]⟩
  by_cases e : q = k
  · rw [if_pos e, if_pos (by omega), e, hv]
  · rw [if_neg e]
    by_cases e2 : q < k
    · rw [if_pos e2, if_pos (by omega)]
    · rw [if_neg e2, if_neg (by omega)]

theorem Fill.drewN {w wr : World} {b : Nat} {t : TypeId} {n k : Nat} {f : Nat → Value} {z : Value} (h : Fill w b t n f z k wr) (m : Nat) : Fill w b t n f z k (wr.drewN m) :=
  ⟨h.row, below_drewN h.bel m, h.size⟩

/-- 'make([]uint64, n, n+1)'. -/
theorem mk_want (n : Nat) (hn : n ≤ 1048576) (w : World) :
    (Instr.makeSlice 22 (.int .i64 (n : Int)) (.int .i64 ((n : Int) + 1))).run Yba.prog w = .ok (.slice (some ⟨w.heap.size, 0, none⟩) n (n + 1)) (w.alloc (.cells (madeCells #[.int .u64 0] (n + 1)) 24)) := by
  obtain ⟨i24, hi24, hz0, hz1, hz2⟩ := info_parts info24
  have h := run_make (P := Yba.prog) w 22 24 i24 (.int .u64 0) Yba.underlying22 hi24 hz0 .i64 .i64 (n : Int) ((n : Int) + 1) (by omega) (by omega) (by rw [hz2]; omega) (by omega)
  rw [hz1] at h
  simpa [show ((n : Int) + 1).toNat = n + 1 by omega, Value.cells] using h

/-- A row that is filled is owned. -/
theorem owns_of_row {w : World} {base b : Nat} {t : TypeId} {n cap : Nat} {f : Nat → Value} (h : w.rowIs b t cap f) (hb : base ≤ b) (hn : n ≤ cap) (hm : cap ≤ maxLen) :
    w.ownsRow base t 1 (.slice (some ⟨b, 0, none⟩) n cap) n ((List.range n).map f) := by
  obtain ⟨c, hc, hs, hf⟩ := h
  refine ⟨by simp, .inr ⟨b, cap, c, rfl, hb, hc, hn, hm, by omega, ?_⟩⟩
  apply List.ext_getElem?
  intro i
  by_cases hi : i < n
  · rw [List.getElem?_take_of_lt (by omega), Array.getElem?_toList, hf i (by omega)]
    simp [hi]
  · rw [List.getElem?_eq_none (by simp; omega), List.getElem?_eq_none (by simp; omega)]

/-- The law's arrays behind the append of the top limb. -/
theorem want_top {w w' : World} {base g n : Nat} {f : Nat → Value} {o : Obj} (hown : w'.ownsRow base 24 1 (.slice (some ⟨g, 0, none⟩) (n + 1) (n + 1)) (n + 1) ((List.range n).map f ++ [.int .u64 1]))
    (hg : (w.alloc o).grownBy w' (some g)) :
    (∀ i, i < n → w'.cell? ⟨g, i, none⟩ = some (f i)) ∧ w'.cell? ⟨g, n, none⟩ = some (.int .u64 1) ∧ (∀ k, k < w.heap.size → k ≠ g → w'.heap[k]? = w.heap[k]?) ∧ w.heap.size < w'.heap.size ∧ (∀ B, B ≤ g → B ≤ w.heap.size → Below B w w') := by
  refine ⟨fun i hi => ?_, ?_, fun k hk hne => ?_, ?_, fun B h1 h2 => ?_⟩
  · rw [hown.cellAt i (by omega), List.getElem?_append_left (by simpa using hi)]
    simp [hi]
  · rw [hown.cellAt n (by omega), List.getElem?_append_right (by simp)]
    simp
  · exact (hg.block k (by simp; omega) (by simpa using hne)).trans (Below.heap_alloc w o k hk)
  · have := hg.size; simp at this; omega
  · exact ((Below.refl B w).alloc h2 o).grown hg (by simp; omega) (by intro k hk; injection hk; omega)

end Go.Proofs.Ybulkdmjo
