import Derived.Test.YbulkdmimA5
namespace Go.Proofs.Ybulkdmim
open Go.RowKit

theorem info26 : (Yba.prog.info? 26).map (fun i => (i.zero, i.size, i.bytes)) = some (some (.pointer none), 1, 8) := by kernel_rfl

/-- What an append that grows leaves of every old cell. -/
theorem grown_none {w w1 : World} {o : Obj} (hg : (w.alloc o).grownBy w1 none) :
    (∀ b x, b < w.heap.size → w1.cell? ⟨b, x, none⟩ = w.cell? ⟨b, x, none⟩) ∧ (∀ b x, b < w.heap.size → w1.frozen? ⟨b, x, none⟩ = w.frozen? ⟨b, x, none⟩) ∧ w.heap.size < w1.heap.size ∧ Below w.heap.size w w1 := by
  have hb : ∀ k, k < w.heap.size → w1.heap[k]? = w.heap[k]? := fun k hk =>
    (hg.block k (by simp; omega) (by simp)).trans (Below.heap_alloc w o k hk)
  have hs : w.heap.size < w1.heap.size := by have := hg.size; simp at this; omega
  exact ⟨fun b x h => World.cell?_of_block (w := w) (hb b h), fun b x h => World.frozen?_of_block (w := w) (hb b h), hs, ((Below.refl _ w).alloc (Nat.le_refl _) o).grown hg (by simp) (by simp)⟩

/-- The world in which push calls Fix. -/
theorem pushed {bv bh n L g c : Nat} {P : Nat → Int} {O : Nat → Int} {c0 : Value} {w w2 : World} {o : Obj}
    (hvL : bv < L) (hLw : L + n < w.heap.size)
    (var : w.cell? ⟨bv, 0, none⟩ = some (.slice (some ⟨bh, 0, none⟩) n n))
    (key : ∀ i, i < n + 1 → w.cell? ⟨L + i, 26, none⟩ = some (.int .i64 (P i)))
    (idx : ∀ i, i < n → w.cell? ⟨L + i, 27, none⟩ = some (.int .i64 (O i))) (idn : w.cell? ⟨L + n, 27, none⟩ = some c0)
    (fri : ∀ i, i < n + 1 → w.frozen? ⟨L + i, 27, none⟩ = false)
    (hg : ((w.setCell ⟨L + n, 27, none⟩ (.int .i64 n)).alloc o).grownBy w2 none) (hb : w.heap.size ≤ g)
    (hc : ∀ p, p < n + 1 → w2.cell? ⟨g, p, none⟩ = some (.pointer (some ⟨L + p, 0, none⟩))) (hz : ∀ p, w2.frozen? ⟨g, p, none⟩ = false) :
    Heaped (w2.setCell ⟨bv, 0, none⟩ (.slice (some ⟨g, 0, none⟩) (n + 1) c)) bv g (n + 1) c L P (Sift.start n O).ids (Sift.start n O).C ∧
    (∀ b x, b < w.heap.size → b ≠ bv → ¬ (L ≤ b ∧ b < L + (n + 1) ∧ x = 27) → (w2.setCell ⟨bv, 0, none⟩ (.slice (some ⟨g, 0, none⟩) (n + 1) c)).cell? ⟨b, x, none⟩ = w.cell? ⟨b, x, none⟩) ∧
    w.heap.size ≤ w2.heap.size ∧ (∀ B, B ≤ bv → Below B w (w2.setCell ⟨bv, 0, none⟩ (.slice (some ⟨g, 0, none⟩) (n + 1) c))) := by
  obtain ⟨k1, z1, s1, B1⟩ := grown_none hg
  have sz : (w.setCell ⟨L + n, 27, none⟩ (.int .i64 n)).heap.size = w.heap.size := by simp
  rw [sz] at k1 z1 s1 B1
  have cv : w2.cell? ⟨bv, 0, none⟩ = some (.slice (some ⟨bh, 0, none⟩) n n) := by
    rw [k1 bv 0 (by omega), cell_set idn, if_neg (by intro e; injection e; omega)]; exact var
  have old : ∀ b x, b < w.heap.size → b ≠ bv → (w2.setCell ⟨bv, 0, none⟩ (.slice (some ⟨g, 0, none⟩) (n + 1) c)).cell? ⟨b, x, none⟩ = if b = L + n ∧ x = 27 then some (.int .i64 n) else w.cell? ⟨b, x, none⟩ := by
    intro b x hb hne
    rw [cell_set cv, if_neg (by intro e; injection e; omega), k1 b x hb, cell_set idn]
    simp only [Addr.mk.injEq, and_true]
  refine ⟨⟨?_, fun p hp => ?_, fun p _ => ?_, fun i hi => ?_, fun i hi => ?_, fun i hi => ?_⟩, fun b x h1 h2 h3 => ?_, by omega, fun B hB => ?_⟩
  · rw [cell_set cv, if_pos rfl]
  · rw [cell_set cv, if_neg (by intro e; injection e; omega)]; exact hc p hp
  · rw [World.frozen?_setCell]; exact hz p
  · rw [old _ _ (by omega) (by omega), if_neg (by omega)]; exact key i hi
  · rw [old _ _ (by omega) (by omega)]
    show _ = some (Value.int .i64 (if i = n then (n : Int) else O i))
    by_cases e : i = n
    · rw [if_pos ⟨by omega, rfl⟩, if_pos e]
    · rw [if_neg (by omega), if_neg e]; exact idx i (by omega)
  · rw [World.frozen?_setCell, z1 _ _ (by omega), World.frozen?_setCell]; exact fri i hi
  · rw [old b x h1 h2, if_neg (by omega)]
  · exact (((Below.refl B w).setCell (p := ⟨L + n, 27, none⟩) (by show B ≤ L + n; omega) _).trans (B1.mono (by omega))).setCell (p := ⟨bv, 0, none⟩) hB _

set_option maxRecDepth 100000 in
set_option maxHeartbeats 1000000 in
/-- (*changeHeap).push on a heap whose array is full: the new line at the end, sifted up. -/
theorem push_any (bv bh n L : Nat) (P : Nat → Int) (O : Nat → Int) (F : Sift.St) (c0 : Value) (w : World) (hn : n + 1 ≤ 2000000)
    (hvL : bv < L) (hhL : bh < L) (hLw : L + n < w.heap.size)
    (var : w.cell? ⟨bv, 0, none⟩ = some (.slice (some ⟨bh, 0, none⟩) n n)) (frv : w.frozen? ⟨bv, 0, none⟩ = false)
    (ptr : ∀ p, p < n → w.cell? ⟨bh, p, none⟩ = some (.pointer (some ⟨L + p, 0, none⟩)))
    (key : ∀ i, i < n + 1 → w.cell? ⟨L + i, 26, none⟩ = some (.int .i64 (P i)))
    (idx : ∀ i, i < n → w.cell? ⟨L + i, 27, none⟩ = some (.int .i64 (O i))) (idn : w.cell? ⟨L + n, 27, none⟩ = some c0)
    (fri : ∀ i, i < n + 1 → w.frozen? ⟨L + i, 27, none⟩ = false) (hF : Hid (Sift.up P n n (Sift.start n O) = F)) :
    Calls Yba.prog 5 #[.pointer (some ⟨bv, 0, none⟩), .pointer (some ⟨L + n, 0, none⟩)] w fun e w' => e = .returned (.tuple #[]) ∧
      ∃ g c, Heaped w' bv g (n + 1) c L P F.ids F.C ∧ w.heap.size ≤ g ∧
        (∀ b o, b < w.heap.size → b ≠ bv → ¬ (L ≤ b ∧ b < L + (n + 1) ∧ o = 27) → w'.cell? ⟨b, o, none⟩ = w.cell? ⟨b, o, none⟩) ∧ (∀ B, B ≤ bv → Below B w w') := by
  obtain ⟨i26, hi26, hz0, hz1, hz2⟩ := info_parts info26
  have fn := fri n (by omega)
  go_enter Yba.func5, Yba.ntmps5
  go_wp2_with (at_builtin; refine wpList_append_grows _ rfl (.tmp 14) (.tmp 16) 25 rfl 26 i26 (.pointer none) 1 8 Yba.underlying25 hi26 hz0 hz1 hz2 rfl (by decide) (some ⟨bh, 0, none⟩) n n ((List.range n).map fun p => .pointer (some ⟨L + p, 0, none⟩)) rfl (by simp) (by simp) ?q1 ⟨w.heap.size, 0, none⟩ 1 1 [.pointer (some ⟨L + n, 0, none⟩)] rfl rfl ?q2 (by simp [Value.oneCell']) (by omega) (by simp [maxLen]; omega) (by omega) ?_)
  case q1 =>
    intro b hb j u hu
    injection hb with hb
    subst hb
    have hj : j < n := by
      have := (List.getElem?_eq_some_iff.1 hu).1
      simpa using this
    have hu' : u = .pointer (some ⟨L + j, 0, none⟩) := by simpa [hj, eq_comm] using hu
    rw [hu', Addr.add_lit, Nat.zero_add, World.cell?_alloc_past _ _ _ (by show bh < _; simp; omega), cell_set idn, if_neg (by intro e; injection e; omega)]
    exact ptr j hj
  case q2 =>
    have := cell_one_new (w.setCell ⟨L + n, 27, none⟩ (.int .i64 n)) (.pointer (some ⟨L + n, 0, none⟩)) 26
    simpa using this
  intro v1 w1 own1 grow1
  obtain ⟨g, c, rfl, hb1, hl1, hc1, hz1'⟩ := owned_ptrs (fun p => .pointer (some ⟨L + p, 0, none⟩)) own1
  obtain ⟨k1, k2, k3, k4⟩ := pushed (c := c) hvL hLw var key idx idn fri grow1 (by omega) hc1 hz1'
  have n1 : ∃ u, w1.cell? ⟨bv, 0, none⟩ = some u := by
    obtain ⟨q1, _, _, _⟩ := grown_none grow1
    exact ⟨_, by rw [q1 bv 0 (by simp; omega), cell_set idn, if_neg (by intro e; injection e; omega)]; exact var⟩
  have n2 : w1.frozen? ⟨bv, 0, none⟩ = false := by
    obtain ⟨_, q2, _, _⟩ := grown_none grow1
    rw [q2 bv 0 (by simp; omega), World.frozen?_setCell]; exact frv
  have n3 : w1.cell? ⟨L + n, 27, none⟩ = some (.int .i64 n) := by
    obtain ⟨q1, _, _, _⟩ := grown_none grow1
    rw [q1 _ _ (by simp; omega), cell_set idn, if_pos rfl]
  obtain ⟨u1, n1⟩ := n1
  have K1 : Hid _ := k1
  have K2 : Hid _ := k2
  have K4 : Hid _ := k4
  have hok := Sift.start_ok n O
  clear own1 grow1 hc1 hz1' k1 k2 k4 var ptr key idx idn fri frv fn
  go_wp2_with fail
  refine (fix_last bv g n c L P O F (Sift.start n O) _ hn (Or.inr (by omega)) (Or.inl hvL) (by omega) K1.out hok hF).mono ?_
  rintro e w3 ⟨rfl, r1, r2⟩
  have R1 : Hid _ := r1
  have R2 : Hid (Aside _ w3 g L (n + 1)) := r2
  clear r1 r2
  go_wp2_with fail
  go_end0
  refine ⟨rfl, g, c, R1.out, by omega, fun b o h1 h2 h3 => ?_, fun B hB => ?_⟩
  · exact (R2.out.cell b o (by omega) h3).trans (K2.out b o h1 h2 h3)
  · exact (K4.out B hB).trans (R2.out.bel B (by omega) (by omega))
end Go.Proofs.Ybulkdmim
