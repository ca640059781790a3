import Derived.Test.YbulkdmkcDoorW1
import Derived.Laws.MakeOwn
import Derived.Lib.JoinLaws
namespace Go.Proofs.YbulkdmkcDoor
open Go Go.RowKit Go.MuLone

theorem Bs.block {w : World} {ao : Option Addr} {l : List UInt8} (h : Bs w ao l) : ∀ a, ao = some a → l ≠ [] → a.block < w.heap.size := fun a ea hl => by
  obtain ⟨a', ea', hc⟩ := h hl
  obtain rfl : a = a' := Option.some.inj (ea.symm.trans ea')
  have hl0 : 0 < (Lib.byteCells l).length := by
    rw [byteCells_len]
    exact List.length_pos_iff.2 hl
  have := World.block_lt_of_cell? w _ (hc 0 _ (List.getElem?_eq_getElem hl0))
  rwa [Lib.block_add] at this

theorem Bs.fr {w w' : World} {b : Nat} {own : Option Nat} {ao : Option Addr} {l : List UInt8} (h : Bs w ao l) (hf : Fr w w' b own) (hb : ∀ a, ao = some a → l ≠ [] → a.block ≠ b ∧ some a.block ≠ own) : Bs w' ao l := fun hl => by
  obtain ⟨a, e, hc⟩ := h hl
  obtain ⟨h1, h2⟩ := hb a e hl
  refine ⟨a, e, fun j v hj => ?_⟩
  exact (World.cell?_of_block (by rw [Lib.block_add]; exact hf.block _ (h.block a e hl) h1 h2)).trans (hc j v hj)

/-- The bytes, plainly: where there is one, its block and offset. -/
theorem Bs.at {w : World} {ao : Option Addr} {l : List UInt8} (h : Bs w ao l) : ∃ b o, (0 < l.length → ao = some ⟨b, o, none⟩) ∧ ∀ k (hk : k < l.length), w.cell? ⟨b, o + k, none⟩ = some (.int .u8 (l[k].toNat : Int)) := by
  by_cases hl : l = []
  · subst hl
    exact ⟨0, 0, fun h => absurd h (by simp), fun k hk => absurd hk (by simp)⟩
  · obtain ⟨⟨b, o, s⟩, e, hc⟩ := h hl
    have hcell : ∀ k (hk : k < l.length), w.cell? ((⟨b, o, s⟩ : Addr).add k) = some (.int .u8 (l[k].toNat : Int)) := fun k hk => hc k _ (by simp [Lib.byteCells, List.getElem?_eq_getElem hk])
    have hs : s = none := by simpa [Addr.add] using World.cell?_spot (hcell 0 (List.length_pos_iff.2 hl))
    subst hs
    exact ⟨b, o, fun _ => e, fun k hk => by have := hcell k hk; rwa [Addr.add_lit] at this⟩

theorem own_bs2 {w : World} {B : Nat} {v : Value} {l : List UInt8} (h : w.ownsRow B 5 1 v l.length (Lib.byteCells l)) : ∃ ao c, v = .slice ao l.length c ∧ Bs w ao l ∧ ∀ a, ao = some a → B ≤ a.block := by
  have h' := h
  obtain ⟨_, ⟨rfl, h0⟩ | ⟨g, cap, cur, rfl, hb, hc, _, _, _, _⟩⟩ := h
  · have hl : l = [] := List.eq_nil_of_length_eq_zero h0
    exact ⟨none, 0, by rw [h0], fun h => absurd hl h, fun a h => by cases h⟩
  · refine ⟨some ⟨g, 0, none⟩, cap, rfl, fun _ => ⟨_, rfl, fun j u hj => ?_⟩, fun a e => ?_⟩
    · have hj' : j < l.length := by
        have := (List.getElem?_eq_some_iff.1 hj).1
        simpa [Lib.byteCells] using this
      rw [Addr.add_lit, Nat.zero_add, h'.cellAt j (by omega)]
      exact hj
    · injection e with e
      subst e
      exact hb

/-- A buffer, and memory above it turned. -/
theorem Buf.below {w w' : World} {b q T B : Nat} {R : Nat → Option Value} {bs : List Value} {own : Option Nat} (h : Buf w b q T R bs own) (hw : Below B w w') (hb : b < B) (ho : ∀ g, own = some g → g < B) : Buf w' b q T R bs own := by
  obtain ⟨lr, ⟨h1, h2, h3⟩ | ⟨g, cap, cur, h1, h3, hg, h4, h5, h6, h7, h8⟩⟩ := h
  · exact ⟨lr, .inl ⟨h1, h2, h3.of_heap (hw.block b hb)⟩⟩
  · exact ⟨lr, .inr ⟨g, cap, cur, h1, h3.of_heap (hw.block b hb), (hw.block g (ho g h1)).trans hg, h4, h5, h6, h7, h8⟩⟩

theorem Buf.own_lt {w : World} {b q T : Nat} {R : Nat → Option Value} {bs : List Value} {own : Option Nat} (h : Buf w b q T R bs own) : ∀ g, own = some g → g < w.heap.size := by
  obtain ⟨lr, ⟨h1, h2, h3⟩ | ⟨g, cap, cur, h1, h3, hg, h4, h5, h6, h7, h8⟩⟩ := h
  · intro g e
    rw [h1] at e
    cases e
  · intro g' e
    rw [h1] at e
    injection e with e
    subst e
    exact (Array.getElem?_eq_some_iff.1 hg).1

theorem Bs.drew' {w : World} {ao : Option Addr} {l : List UInt8} (h : Bs w ao l) (m : Nat) : Bs (w.drewN m) ao l := h

/-- What 'expected' is. -/
structure Ex (W0 : World) (B : Nat) (l : List UInt8) (v : Value) (W : World) : Prop where
  bel : Below B W0 W
  own : W.ownsRow B 5 1 v l.length (Lib.byteCells l)
  size : B ≤ W.heap.size

theorem ex_start (W : World) (n : Nat) (hn : n ≤ maxLen) : Ex W W.heap.size [] (.slice (some ⟨W.heap.size, 0, none⟩) 0 n) (W.alloc (.cells (madeCells #[.int .u8 0] n) 5)) :=
  ⟨(Below.refl _ W).alloc (Nat.le_refl _) _, World.ownsRow_made W _ n (Nat.le_refl _) hn (by rw [size_madeCells]; omega), by rw [Deep.nblk_alloc]; omega⟩

theorem ex_step {W0 W W1 : World} {B : Nat} {l : List UInt8} {v v1 : Value} {o : Obj} {x : UInt8} {n : Nat} (hn : l.length = n) (h : Ex W0 B l v W) (ho : W1.ownsRow B 5 1 v1 (n + 1) (Lib.byteCells l ++ [.int .u8 (x.toNat : Int)])) (hg : (W.alloc o).grownBy W1 v.ownBlock) :
    Ex W0 B (l ++ [x]) v1 W1 := by
  have hs := h.size
  have hg' := hg.size
  rw [Deep.nblk_alloc] at hg'
  refine ⟨(h.bel.alloc hs o).grown hg (by rw [Deep.nblk_alloc]; omega) (fun g e => (h.own.lt g e).1), ?_, by omega⟩
  subst hn
  rw [List.length_append, byteCells_append]
  exact ho

/-- What stands behind the second Write: memory below b as before; b holds l, its lock is free. -/
structure Fin (W1 : World) (b : Nat) (l : List UInt8) (own : Option Nat) (W : World) : Prop where
  bel : Below b W1 W
  buf : Buf W b 2 37 (Rl 0) (Lib.byteCells l) own

theorem Fin.drewN {W1 W : World} {b : Nat} {l : List UInt8} {own : Option Nat} (h : Fin W1 b l own W) (m : Nat) : Fin W1 b l own (W.drewN m) := ⟨below_drewN h.bel m, h.buf⟩

theorem alloc1_src (w : World) (v : Value) (t : TypeId) : ∀ j u, [v][j]? = some u → (w.alloc (.cells #[v] t)).cell? ((⟨w.heap.size, 0, none⟩ : Addr).add j) = some u := by
  intro j u hj
  have hj0 : j = 0 := by
    have := (List.getElem?_eq_some_iff.1 hj).1
    simp at this
    exact this
  subst hj0
  rw [Addr.add_lit, Lib.cell_of_heap (Deep.blk_alloc_new _ _)]
  simpa using hj

theorem one_byte (x : Int) : ∀ u ∈ [Value.int .u8 x], u.oneCell' = true := by
  intro u hu
  rw [List.mem_singleton] at hu
  subst hu
  rfl

theorem take_next (l : List UInt8) (k : Nat) (hk : k < l.length) : l.take (k + 1) = l.take k ++ [l[k]] := by simp

end Go.Proofs.YbulkdmkcDoor
