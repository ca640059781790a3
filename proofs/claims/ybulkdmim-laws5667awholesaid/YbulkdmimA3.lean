import Derived.Test.YbulkdmimA1
import Derived.Test.YbulkdmimA2
import Derived.WalkSmall
namespace Go.Proofs.Ybulkdmim
open Go.RowKit

/-- The heap in memory: the variable at bv holds a slice of n pointers at bh; position p holds line 'ids p'; line i lies in block L + i, its key P i, its recorded index C i. -/
structure Heaped (w : World) (bv bh n c L : Nat) (P : Nat → Int) (ids : Nat → Nat) (C : Nat → Int) : Prop where
  var : w.cell? ⟨bv, 0, none⟩ = some (.slice (some ⟨bh, 0, none⟩) n c)
  ptr : ∀ p, p < n → w.cell? ⟨bh, p, none⟩ = some (.pointer (some ⟨L + ids p, 0, none⟩))
  frz : ∀ p, p < n → w.frozen? ⟨bh, p, none⟩ = false
  key : ∀ i, i < n → w.cell? ⟨L + i, 26, none⟩ = some (.int .i64 (P i))
  idx : ∀ i, i < n → w.cell? ⟨L + i, 27, none⟩ = some (.int .i64 (C i))
  fri : ∀ i, i < n → w.frozen? ⟨L + i, 27, none⟩ = false

/-- What the heap's own methods leave alone. -/
structure Aside (w w' : World) (bh L n : Nat) : Prop where
  cell : ∀ b o, b ≠ bh → ¬ (L ≤ b ∧ b < L + n ∧ o = 27) → w'.cell? ⟨b, o, none⟩ = w.cell? ⟨b, o, none⟩
  size : w'.heap.size = w.heap.size
  bel : ∀ B, B ≤ bh → B ≤ L → Below B w w'

theorem Aside.refl (w : World) (bh L n : Nat) : Aside w w bh L n := ⟨fun _ _ _ _ => rfl, rfl, fun _ _ _ => Below.refl _ _⟩

theorem Aside.trans {w w' w'' : World} {bh L n : Nat} (h : Aside w w' bh L n) (k : Aside w' w'' bh L n) : Aside w w'' bh L n :=
  ⟨fun b o h1 h2 => (k.cell b o h1 h2).trans (h.cell b o h1 h2), k.size.trans h.size, fun B h1 h2 => (h.bel B h1 h2).trans (k.bel B h1 h2)⟩

theorem cell_set {w : World} {a b : Addr} {u v : Value} (h : w.cell? a = some u) : (w.setCell a v).cell? b = if b = a then some v else w.cell? b := by
  by_cases e : b = a
  · rw [if_pos e, e]; exact World.cell?_setCell_same w a v h
  · rw [if_neg e]; exact World.cell?_setCell_other w a b v (fun x => e x.symm)

theorem heaped_swap {w : World} {bv bh n c L j p m : Nat} {P : Nat → Int} {s : Sift.St} (h : Heaped w bv bh n c L P s.ids s.C)
    (hlt : ∀ q, q < n → s.ids q < n) (hinj : ∀ a b, a < n → b < n → s.ids a = s.ids b → a = b) (hp : p < n) (hj : j < n) (hne : p ≠ j)
    (hbh : bh < L ∨ L + n ≤ bh) (hbv : bv < L ∨ L + n ≤ bv) (hvh : bv ≠ bh) {w' : World}
    (hw : w' = World.drewN ((((w.setCell ⟨bh, p, none⟩ (.pointer (some ⟨L + s.ids j, 0, none⟩))).setCell ⟨bh, j, none⟩ (.pointer (some ⟨L + s.ids p, 0, none⟩))).setCell ⟨L + s.ids j, 27, none⟩ (.int .i64 p)).setCell ⟨L + s.ids p, 27, none⟩ (.int .i64 j)) m) :
    Heaped w' bv bh n c L P (Sift.step s j p).ids (Sift.step s j p).C ∧ Aside w w' bh L n := by
  have lj := hlt j hj
  have lp := hlt p hp
  have hids : s.ids p ≠ s.ids j := fun e => hne (hinj p j hp hj e)
  have c1 := h.ptr p hp
  have c2 : (w.setCell ⟨bh, p, none⟩ (.pointer (some ⟨L + s.ids j, 0, none⟩))).cell? ⟨bh, j, none⟩ = some (.pointer (some ⟨L + s.ids j, 0, none⟩)) := by
    rw [cell_set c1, if_neg (by intro e; injection e; omega)]; exact h.ptr j hj
  have c3 : ((w.setCell ⟨bh, p, none⟩ (.pointer (some ⟨L + s.ids j, 0, none⟩))).setCell ⟨bh, j, none⟩ (.pointer (some ⟨L + s.ids p, 0, none⟩))).cell? ⟨L + s.ids j, 27, none⟩ = some (.int .i64 (s.C (s.ids j))) := by
    rw [cell_set c2, if_neg (by intro e; injection e; omega), cell_set c1, if_neg (by intro e; injection e; omega)]; exact h.idx _ lj
  have c4 : (((w.setCell ⟨bh, p, none⟩ (.pointer (some ⟨L + s.ids j, 0, none⟩))).setCell ⟨bh, j, none⟩ (.pointer (some ⟨L + s.ids p, 0, none⟩))).setCell ⟨L + s.ids j, 27, none⟩ (.int .i64 p)).cell? ⟨L + s.ids p, 27, none⟩ = some (.int .i64 (s.C (s.ids p))) := by
    rw [cell_set c3, if_neg (by intro e; injection e; omega), cell_set c2, if_neg (by intro e; injection e; omega), cell_set c1, if_neg (by intro e; injection e; omega)]; exact h.idx _ lp
  have all : ∀ b o, w'.cell? ⟨b, o, none⟩ = if b = L + s.ids p ∧ o = 27 then some (.int .i64 j) else if b = L + s.ids j ∧ o = 27 then some (.int .i64 p) else
      if b = bh ∧ o = j then some (.pointer (some ⟨L + s.ids p, 0, none⟩)) else if b = bh ∧ o = p then some (.pointer (some ⟨L + s.ids j, 0, none⟩)) else w.cell? ⟨b, o, none⟩ := by
    intro b o
    rw [hw, World.cell?_drewN, cell_set c4, cell_set c3, cell_set c2, cell_set c1]
    simp only [Addr.mk.injEq, and_true]
  have frz : ∀ a, w'.frozen? a = w.frozen? a := by
    intro a
    rw [hw, World.frozen?_drewN]
    simp
  refine ⟨⟨?_, fun q hq => ?_, fun q hq => ?_, fun i hi => ?_, fun i hi => ?_, fun i hi => ?_⟩, ⟨fun b o h1 h2 => ?_, ?_, fun B h1 h2 => ?_⟩⟩
  · rw [all, if_neg (by omega), if_neg (by omega), if_neg (by omega), if_neg (by omega)]; exact h.var
  · rw [all, if_neg (by omega), if_neg (by omega)]
    show _ = some (Value.pointer (some ⟨L + (if q = j then s.ids p else if q = p then s.ids j else s.ids q), 0, none⟩))
    by_cases e1 : q = j
    · rw [if_pos ⟨rfl, e1⟩, if_pos e1]
    · rw [if_neg (fun x => e1 x.2), if_neg e1]
      by_cases e2 : q = p
      · rw [if_pos ⟨rfl, e2⟩, if_pos e2]
      · rw [if_neg (fun x => e2 x.2), if_neg e2]; exact h.ptr q hq
  · rw [frz]; exact h.frz q hq
  · rw [all, if_neg (by omega), if_neg (by omega), if_neg (by omega), if_neg (by omega)]; exact h.key i hi
  · rw [all]
    show _ = some (Value.int .i64 (if i = s.ids j then (p : Int) else if i = s.ids p then (j : Int) else s.C i))
    by_cases e1 : i = s.ids p
    · rw [if_pos ⟨by omega, rfl⟩, if_neg (by omega), if_pos e1]
    · rw [if_neg (by omega)]
      by_cases e2 : i = s.ids j
      · rw [if_pos ⟨by omega, rfl⟩, if_pos e2]
      · rw [if_neg (by omega), if_neg (by omega), if_neg (by omega), if_neg e2, if_neg e1]; exact h.idx i hi
  · rw [frz]; exact h.fri i hi
  · rw [all, if_neg (by omega), if_neg (by omega), if_neg (fun x => h1 x.1), if_neg (fun x => h1 x.1)]
  · rw [hw]; simp
  · rw [hw]
    exact below_drewN (((((Below.refl B w).setCell (p := ⟨bh, p, none⟩) h1 _).setCell (p := ⟨bh, j, none⟩) h1 _).setCell (p := ⟨L + s.ids j, 27, none⟩) (by show B ≤ L + s.ids j; omega) _).setCell (p := ⟨L + s.ids p, 27, none⟩) (by show B ≤ L + s.ids p; omega) _) m

end Go.Proofs.Ybulkdmim
