import Derived.Test.YbulkdmkcDoorC10
import Derived.Deep.OwnRows
import Derived.Below
namespace Go.Proofs.YbulkdmkcDoor
open Go Go.RowKit Go.MuLone

theorem info22 : (Ybad.prog.info? 22).map (fun i => (i.zero, i.size, i.bytes)) = some (some (.slice none 0 0), 1, 24) := by kernel_rfl

/-- The first k chunks, one behind the other. -/
def cat (D : Nat → List UInt8) : Nat → List UInt8
  | 0 => []
  | k + 1 => cat D k ++ D k

theorem cat_len (D : Nat → List UInt8) (k : Nat) : (cat D (k + 1)).length = (cat D k).length + (D k).length := by simp [cat]
theorem cat_le (D : Nat → List UInt8) {j k : Nat} (h : j ≤ k) : (cat D j).length ≤ (cat D k).length := by
  induction k with
  | zero => obtain rfl : j = 0 := by omega
            exact Nat.le_refl _
  | succ k ih =>
    by_cases e : j = k + 1
    · rw [e]
      exact Nat.le_refl _
    · have := ih (by omega)
      have := cat_len D k
      omega
theorem chunk_le (D : Nat → List UInt8) {j k : Nat} (h : j < k) : (D j).length ≤ (cat D k).length := by
  have := cat_le D (j := j + 1) (k := k) h
  have := cat_len D j
  omega
theorem byteCells_append (l m : List UInt8) : Lib.byteCells (l ++ m) = Lib.byteCells l ++ Lib.byteCells m := by simp [Lib.byteCells]
theorem byteCells_len (l : List UInt8) : (Lib.byteCells l).length = l.length := by simp [Lib.byteCells]

theorem Bs.below {w W : World} {B : Nat} {ao : Option Addr} {l : List UInt8} (h : Bs w ao l) (hb : ∀ a, ao = some a → l ≠ [] → a.block < B) (hW : Below B w W) : Bs W ao l := fun hl => by
  obtain ⟨a, e, hc⟩ := h hl
  refine ⟨a, e, fun j v hj => ?_⟩
  rw [hW.cell (p := a.add j) (by rw [Lib.block_add]; exact hb a e hl)]
  exact hc j v hj

/-- A slice of byte slices, at b0: what it bears in the world W; all of it below B. -/
structure Ins (B b0 o0 n : Nat) (A : Nat → Option Addr) (C : Nat → Nat) (D : Nat → List UInt8) (W : World) : Prop where
  cell : ∀ i, i < n → W.cell? ⟨b0, o0 + i, none⟩ = some (.slice (A i) (D i).length (C i))
  bs : ∀ i, i < n → Bs W (A i) (D i)
  low : ∀ i, i < n → b0 < B
  blk : ∀ i, i < n → ∀ a, A i = some a → D i ≠ [] → a.block < B
  nil : ∀ i, i < n → A i = none → D i = [] ∧ C i = 0

theorem Ins.below {B b0 o0 n : Nat} {A : Nat → Option Addr} {C : Nat → Nat} {D : Nat → List UInt8} {w W : World} (h : Ins B b0 o0 n A C D w) (hW : Below B w W) : Ins B b0 o0 n A C D W :=
  ⟨fun i hi => (hW.cell (p := ⟨b0, o0 + i, none⟩) (h.low i hi)).trans (h.cell i hi), fun i hi => (h.bs i hi).below (h.blk i hi) hW, h.low, h.blk, h.nil⟩

/-- The copies, up to k. -/
structure Cps (w : World) (B n : Nat) (D : Nat → List UInt8) (k : Nat) (A : Nat → Option Addr) (C : Nat → Nat) (W : World) : Prop where
  bel : Below B w W
  row : W.rowIs B 22 n (fun i => if i < k then .slice (A i) (D i).length (C i) else .slice none 0 0)
  bs : ∀ i, i < k → Bs W (A i) (D i)
  blk : ∀ i, i < k → ∀ a, A i = some a → B + 1 ≤ a.block ∧ a.block < W.heap.size
  nil : ∀ i, i < k → A i = none → D i = [] ∧ C i = 0

theorem cps_start (w : World) (n : Nat) (D : Nat → List UInt8) : Cps w w.heap.size n D 0 (fun _ => none) (fun _ => 0) (w.alloc (.cells (madeCells #[.slice none 0 0] n) 22)) :=
  ⟨(Below.refl _ w).alloc (Nat.le_refl _) _, (World.rowIs_made w (.slice none 0 0) n 22).congr (fun i _ => by rw [if_neg (by omega)]), fun i h => absurd h (by omega), fun i h => absurd h (by omega), fun i h => absurd h (by omega)⟩

theorem cps_step {w W w1 : World} {B n k : Nat} {D : Nat → List UInt8} {A : Nat → Option Addr} {C : Nat → Nat} (h : Cps w B n D k A C W) {ao : Option Addr} {c : Nat} (hc : ao = none → c = 0) (hcl : Cloned W (D k) ao w1) :
    ∃ A' C', Cps w B n D (k + 1) A' C' (w1.setCell ⟨B, k, none⟩ (.slice ao (D k).length c)) := by
  have hB : B < W.heap.size := h.row.lt
  have r1 := (h.row.of_block (hcl.bel.block B hB)).set k (.slice ao (D k).length c)
  have hsz : (w1.setCell ⟨B, k, none⟩ (.slice ao (D k).length c)).heap.size = w1.heap.size := by simp [World.setCell]
  have hle := hcl.bel.size
  have hbel1 : Below B w w1 := h.bel.trans (hcl.bel.mono (by omega))
  have hset : ∀ a : Addr, B ≠ a.block → (w1.setCell ⟨B, k, none⟩ (.slice ao (D k).length c)).cell? a = w1.cell? a := fun a ha => World.cell?_setCell_other _ _ _ _ (fun e => ha (congrArg Addr.block e))
  refine ⟨fun i => if i = k then ao else A i, fun i => if i = k then c else C i, ⟨hbel1.setCell (Nat.le_refl _) _, ?_, ?_, ?_, ?_⟩⟩
  · refine r1.congr fun i hi => ?_
    by_cases e : i = k
    · subst e
      simp
    · simp only [if_neg e]
      by_cases e2 : i < k
      · rw [if_pos e2, if_pos (by omega)]
      · rw [if_neg e2, if_neg (by omega)]
  · intro i hi
    by_cases e : i = k
    · subst e
      simp only [if_true]
      intro hl
      obtain ⟨a, ea, hca⟩ := hcl.bs hl
      refine ⟨a, ea, fun j v hj => ?_⟩
      rw [hset _ (by rw [Lib.block_add]; have := (hcl.old a ea).1; omega)]
      exact hca j v hj
    · simp only [if_neg e]
      have hb := (h.bs i (by omega)).below (B := W.heap.size) (fun a ea _ => (h.blk i (by omega) a ea).2) hcl.bel
      intro hl
      obtain ⟨a, ea, hca⟩ := hb hl
      refine ⟨a, ea, fun j v hj => ?_⟩
      rw [hset _ (by rw [Lib.block_add]; have := (h.blk i (by omega) a ea).1; omega)]
      exact hca j v hj
  · intro i hi a ea
    rw [hsz]
    by_cases e : i = k
    · simp only [if_pos e] at ea
      have := hcl.old a ea
      omega
    · simp only [if_neg e] at ea
      have := h.blk i (by omega) a ea
      omega
  · intro i hi ea
    by_cases e : i = k
    · subst e
      simp only [if_true] at ea ⊢
      refine ⟨?_, hc ea⟩
      refine Classical.byContradiction fun hl => ?_
      obtain ⟨a, e2, _⟩ := hcl.bs hl
      rw [ea] at e2
      cases e2
    · simp only [if_neg e] at ea ⊢
      exact h.nil i (by omega) ea

theorem cps_full {w W : World} {B n : Nat} {D : Nat → List UInt8} {A : Nat → Option Addr} {C : Nat → Nat} (h : Cps w B n D n A C W) : Ins W.heap.size B 0 n A C D W :=
  ⟨fun i hi => by rw [Nat.zero_add, h.row.cell hi, if_pos hi], h.bs, fun i hi => h.row.lt, fun i hi a ea _ => (h.blk i hi a ea).2, h.nil⟩

/-- The row that holds the bytes l. -/
theorem own_bs {w : World} {B : Nat} {v : Value} {l : List UInt8} (h : w.ownsRow B 5 1 v l.length (Lib.byteCells l)) : ∃ ao c, v = .slice ao l.length c ∧ Bs w ao l ∧ ∀ a, ao = some a → a.block < w.heap.size := by
  have h' := h
  obtain ⟨_, ⟨rfl, h0⟩ | ⟨g, cap, cur, rfl, hb, hc, _, _, _, _⟩⟩ := h
  · have hl : l = [] := List.eq_nil_of_length_eq_zero h0
    exact ⟨none, 0, by rw [h0], fun h => absurd hl h, fun a h => by cases h⟩
  · refine ⟨some ⟨g, 0, none⟩, cap, rfl, fun _ => ⟨_, rfl, fun j u hj => ?_⟩, fun a e => ?_⟩
    · have hj' : j < l.length := by
        have := (List.getElem?_eq_some_iff.1 hj).1
        simpa [Lib.byteCells] using this
      rw [Addr.add_lit, Nat.zero_add, h'.cellAt j (by omega)]
      exact hj
    · injection e with e
      subst e
      exact (Array.getElem?_eq_some_iff.1 hc).1

/-- What 'want' is, behind k rounds. -/
structure Wt (W0 : World) (B : Nat) (D : Nat → List UInt8) (k : Nat) (v : Value) (W : World) : Prop where
  bel : Below B W0 W
  own : W.ownsRow B 5 1 v (cat D k).length (Lib.byteCells (cat D k))

theorem wt_start (W : World) (D : Nat → List UInt8) : Wt W W.heap.size D 0 (.slice none 0 0) W := ⟨Below.refl _ _, World.ownsRow_nil _ _ _ _⟩

theorem wt_step {W0 W W1 : World} {B k : Nat} {D : Nat → List UInt8} {v v1 : Value} (h : Wt W0 B D k v W) (hB : B ≤ W.heap.size) (ho : W1.ownsRow B 5 1 v1 ((cat D k).length + (D k).length) (Lib.byteCells (cat D k) ++ Lib.byteCells (D k))) (hg : W.grownBy W1 v.ownBlock) :
    Wt W0 B D (k + 1) v1 W1 := by
  refine ⟨h.bel.grown hg hB ?_, ?_⟩
  · intro g e
    obtain ⟨_, ⟨rfl, _⟩ | ⟨g', cap, cur, rfl, hb, _⟩⟩ := h.own
    · simp [Value.ownBlock] at e
    · simp [Value.ownBlock] at e
      omega
  · rw [cat_len]
    show W1.ownsRow B 5 1 v1 _ (Lib.byteCells (cat D k ++ D k))
    rw [byteCells_append]
    exact ho

theorem wt_none {W0 W : World} {B k : Nat} {D : Nat → List UInt8} {v : Value} (h : Wt W0 B D k v W) (hD : D k = []) : Wt W0 B D (k + 1) v W := by
  have e : cat D (k + 1) = cat D k := by simp [cat, hD]
  exact ⟨h.bel, by rw [e]; exact h.own⟩

/-- What b is, behind k rounds. -/
structure Wr (W0 : World) (b : Nat) (D : Nat → List UInt8) (k : Nat) (own : Option Nat) (W : World) : Prop where
  bel : Below b W0 W
  buf : Buf W b 2 37 (Rl 0) (Lib.byteCells (cat D k)) own
  old : ∀ g, own = some g → b + 1 ≤ g
  size : b + 1 ≤ W.heap.size

theorem wr_step {W0 W W1 : World} {b k : Nat} {D : Nat → List UInt8} {own own' : Option Nat} (h : Wr W0 b D k own W) (hb : Buf W1 b 2 37 (Rl 0) (Lib.byteCells (cat D k) ++ Lib.byteCells (D k)) own') (ho : own' = own ∨ ∃ N, own' = some N ∧ W.heap.size ≤ N) (hf : Fr W W1 b own) :
    Wr W0 b D (k + 1) own' W1 := by
  have hs := h.size
  refine ⟨h.bel.trans (hf.below (by omega) (Nat.le_refl _) (fun g e => by have := h.old g e; omega)), ?_, fun g e => ?_, Nat.le_trans hs hf.size⟩
  · show Buf W1 b 2 37 (Rl 0) (Lib.byteCells (cat D k ++ D k)) own'
    rw [byteCells_append]
    exact hb
  · rcases ho with rfl | ⟨N, e2, hN⟩
    · exact h.old g e
    · rw [e2] at e
      injection e with e
      omega

theorem wr_start (W : World) (D : Nat → List UInt8) : Wr W W.heap.size D 0 none (W.alloc (.cells #[.int .i32 0, .int .u32 0, .slice none 0 0, .int .i64 0, .int .i8 0] 37)) :=
  ⟨(Below.refl _ W).alloc (Nat.le_refl _) _, ⟨0, .inl ⟨rfl, rfl, ⟨#[.int .i32 0, .int .u32 0, .slice none 0 0, .int .i64 0, .int .i8 0], Deep.blk_alloc_new _ _, rfl, rfl, rfl, fun i hi => by
    by_cases h0 : i = 0
    · subst h0; rfl
    by_cases h1 : i = 1
    · subst h1; rfl
    rw [Array.getElem?_eq_none (by show 5 ≤ i; omega)]
    unfold Rl
    rw [if_neg h0, if_neg h1]⟩⟩⟩, (fun g e => by cases e), by rw [Deep.nblk_alloc]; omega⟩

theorem wr_end {W0 W : World} {b k m : Nat} {D : Nat → List UInt8} {own : Option Nat} (h : Wr W0 b D k own W) (u v : Value) : Below b W0 (((W.setCell ⟨b, 0, none⟩ u).drewN m).setCell ⟨b, 0, none⟩ v) :=
  (below_drewN (h.bel.setCell (p := ⟨b, 0, none⟩) (Nat.le_refl _) u) m).setCell (p := ⟨b, 0, none⟩) (Nat.le_refl _) v

end Go.Proofs.YbulkdmkcDoor
