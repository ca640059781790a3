import Derived.Test.YbulkdmjoB2
namespace Go.Proofs.Ybulkdmjo
open Go.RowKit

/-- Behind k rounds of addDecimal's loop. -/
structure Adds (w : World) (bl n : Nat) (X Y : Nat → Int) (k : Nat) (wr : World) : Prop where
  row : wr.rowIs bl 24 n (fun i => if i < k then .int .u64 (Dec.lr X Y i) else .int .u64 (X i))
  other : ∀ j, j ≠ bl → wr.heap[j]? = w.heap[j]?
  size : wr.heap.size = w.heap.size
  bel : Below bl w wr

theorem adds_step {w wr : World} {bl n k : Nat} {X Y : Nat → Int} (h : Adds w bl n X Y k wr) (v : Int) (hv : Dec.lr X Y k = v) : Adds w bl n X Y (k + 1) (wr.setCell ⟨bl, k, none⟩ (.int .u64 v)) := by
  refine ⟨(h.row.set k _).congr fun q _ => ?_, fun j hj => (Below.heap_setCell _ _ _ _ hj).trans (h.other j hj), by simp [h.size], h.bel.setCell (p := ⟨bl, k, none⟩) (Nat.le_refl _) _⟩
  by_cases e : q = k
  · rw [if_pos e, if_pos (by omega), e, hv]
  · rw [if_neg e]
    by_cases e2 : q < k
    · rw [if_pos e2, if_pos (by omega)]
    · rw [if_neg e2, if_neg (by omega)]

/-- What addDecimal leaves. -/
structure Added (w : World) (bl n : Nat) (X Y : Nat → Int) (g len : Nat) (w' : World) : Prop where
  len : len = n + (Dec.lc X Y n).toNat
  got : ∀ i, i < n → w'.cell? ⟨g, i, none⟩ = some (.int .u64 (Dec.lr X Y i))
  top : Dec.lc X Y n = 1 → w'.cell? ⟨g, n, none⟩ = some (.int .u64 1)
  low : ∀ i, i < n → w'.cell? ⟨bl, i, none⟩ = some (.int .u64 (Dec.lr X Y i))
  other : ∀ b o, b < w.heap.size → b ≠ bl → w'.cell? ⟨b, o, none⟩ = w.cell? ⟨b, o, none⟩
  bel : Below bl w w'

theorem added_same {w w' : World} {bl n : Nat} {X Y : Nat → Int} (h : Adds w bl n X Y n w') (h0 : Dec.lc X Y n = 0) : Added w bl n X Y bl n w' := by
  have hr : ∀ i, i < n → w'.cell? ⟨bl, i, none⟩ = some (.int .u64 (Dec.lr X Y i)) := fun i hi => by rw [h.row.cell hi, if_pos hi]
  exact ⟨by rw [h0]; rfl, hr, fun h1 => by omega, hr, fun b o _ hne => World.cell?_of_block (h.other b hne), h.bel⟩

theorem owned_ints {w : World} {base e n : Nat} {v u : Value} {f : Nat → Value} (h : w.ownsRow base e 1 v (n + 1) ((List.range n).map f ++ [u])) :
    ∃ b c, v = .slice (some ⟨b, 0, none⟩) (n + 1) c ∧ base ≤ b ∧ (∀ p, p < n → w.cell? ⟨b, p, none⟩ = some (f p)) ∧ w.cell? ⟨b, n, none⟩ = some u := by
  have h' := h
  obtain ⟨_, h | ⟨b, cap, cur, hv, hb, hg, _, _, _, ht⟩⟩ := h
  · omega
  · subst hv
    refine ⟨b, cap, rfl, hb, fun p hp => ?_, ?_⟩
    · rw [h'.cellAt p (by omega), List.getElem?_append_left (by simpa using hp)]
      simp [hp]
    · rw [h'.cellAt n (by omega), List.getElem?_append_right (by simp)]
      simp

theorem added_grown {w wr w' : World} {bl n g : Nat} {X Y : Nat → Int} {o : Obj} (h : Adds w bl n X Y n wr) (hlt : bl < w.heap.size) (h1 : Dec.lc X Y n = 1) (hg : (wr.alloc o).grownBy w' none)
    (hc : ∀ p, p < n → w'.cell? ⟨g, p, none⟩ = some (.int .u64 (Dec.lr X Y p))) (ht : w'.cell? ⟨g, n, none⟩ = some (.int .u64 1)) : Added w bl n X Y g (n + 1) w' := by
  have hs := h.size
  have hb : ∀ k, k < wr.heap.size → w'.heap[k]? = wr.heap[k]? := fun k hk => (hg.block k (by simp; omega) (by simp)).trans (Below.heap_alloc wr o k hk)
  refine ⟨by rw [h1]; rfl, hc, fun _ => ht, fun i hi => ?_, fun b x hb1 hne => ?_, ?_⟩
  · rw [World.cell?_of_block (w := wr) (a := ⟨bl, i, none⟩) (hb bl (by omega)), h.row.cell hi, if_pos hi]
  · exact (World.cell?_of_block (w := wr) (a := ⟨b, x, none⟩) (hb b (by omega))).trans (World.cell?_of_block (h.other b hne))
  · exact (h.bel.alloc (by omega) o).grown hg (by simp; omega) (by simp)

theorem lr_zero {X Y : Nat → Int} {k : Nat} (h : Y k = 0) : Dec.lr X Y k = (X k + Dec.lc X Y k) % 100000 ∧ Dec.lc X Y (k + 1) = (X k + Dec.lc X Y k) / 100000 := by
  constructor
  · unfold Dec.lr; rw [h]; congr 1; omega
  · show (X k + Dec.lc X Y k + Y k) / 100000 = _
    rw [h]; congr 1; omega

set_option maxRecDepth 100000 in
set_option maxHeartbeats 2000000 in
/-- addDecimal, the first argument at least as long as the second. -/
theorem add_ge (bl bs n m : Nat) (X Y : Nat → Int) (w : World) (hn : n ≤ 1048576) (hm : m ≤ n) (hX : Dec.Limbs X) (hY : Dec.Limbs Y) (hz : ∀ i, m ≤ i → Y i = 0)
    (hlw : bl < w.heap.size) (hne : bs ≠ bl) (hr : w.rowIs bl 24 n (fun i => .int .u64 (X i))) (hc : ∀ i, i < m → w.cell? ⟨bs, i, none⟩ = some (.int .u64 (Y i))) :
    Calls Yba.prog 5 #[.slice (some ⟨bl, 0, none⟩) n n, .slice (some ⟨bs, 0, none⟩) m m] w fun e w' => ∃ g len c, e = .returned (.slice (some ⟨g, 0, none⟩) len c) ∧ Added w bl n X Y g len w' := by
  obtain ⟨i24, hi24, hz0, hz1, hz2⟩ := info_parts info24
  have HC : Hid _ := hc
  have HX : Hid _ := hX
  have HY : Hid _ := hY
  have HZ : Hid _ := hz
  have A0 : Adds w bl n X Y 0 w := ⟨hr.congr fun i _ => by simp, fun _ _ => rfl, rfl, Below.refl _ _⟩
  clear hc hX hY hz hr
  go_enter Yba.func5, Yba.ntmps5
  go_wp2_with fail
  go_loopw [5, 17] (fun v u wr => ∃ k : Nat, u = .int .i64 k ∧ k ≤ n ∧ v = .int .u64 (Dec.lc X Y k) ∧ Adds w bl n X Y k wr) (fun _ u _ => n - (intOf u).toNat)
  case atStart => exact ⟨0, rfl, Nat.zero_le _, rfl, A0⟩
  case round =>
    clear A0
    obtain ⟨k, rfl, hk, rfl, hA⟩ := hrel
    have hcb := Dec.lc_bd HX.out HY.out k
    by_cases hlt : k < n
    · have v1 := hA.row.cell hlt
      have f1 := hA.row.frozen k
      rw [if_neg (by omega)] at v1
      have hxb := HX.out k
      have hyb := HY.out k
      have hltI : (k : Int) < (n : Int) := by omega
      by_cases hm : k < m
      · have c1 : wr.cell? ⟨bs, k, none⟩ = some (.int .u64 (Y k)) := (World.cell?_of_block (w := w) (hA.other bs hne)).trans (HC.out k hm)
        have hmI : (k : Int) < (m : Int) := by omega
        have hA2 := adds_step hA ((X k + Dec.lc X Y k + Y k) % 100000) rfl
        have hl2 : Dec.lc X Y (k + 1) = (X k + Dec.lc X Y k + Y k) / 100000 := rfl
        have HL2 : Hid _ := hl2
        clear hA hl2
        generalize Dec.lc X Y k = c at *
        generalize X k = xk at *
        generalize Y k = yk at *
        go_wp2_with fail
        go_roundw
        case rel => exact ⟨k + 1, by go_num, by omega, by rw [HL2.out], hA2⟩
        case measure => simp [intOf]; omega
      · have hmI : ¬ (k : Int) < (m : Int) := by omega
        obtain ⟨e1, e2⟩ := lr_zero (X := X) (Y := Y) (k := k) (HZ.out k (by omega))
        have hA2 := adds_step hA _ e1
        have HL2 : Hid _ := e2
        clear hA e1 e2
        generalize Dec.lc X Y k = c at *
        generalize X k = xk at *
        go_wp2_with fail
        go_roundw
        case rel => exact ⟨k + 1, by go_num, by omega, by rw [HL2.out], hA2⟩
        case measure => simp [intOf]; omega
    · obtain rfl : n = k := by omega
      by_cases h0 : Dec.lc X Y n = 0
      · have hfin := added_same hA h0
        rw [h0]
        clear hA hcb h0
        go_wp2_with fail
        go_ret
        exact ⟨bl, n, n, rfl, hfin⟩
      · have h1 : Dec.lc X Y n = 1 := by omega
        have hrow := hA.row
        rw [h1]
        have HA : Hid _ := hA
        have H1 : Hid _ := h1
        have hsz : bl < wr.heap.size := by have := hA.size; omega
        clear hA hcb h0 h1
        go_wp2_with (at_builtin; refine wpList_append_grows _ rfl (.tmp 46) (.tmp 48) 23 rfl 24 i24 (.int .u64 0) 1 8 Yba.underlying23 hi24 hz0 hz1 hz2 rfl (by decide) (some ⟨bl, 0, none⟩) n n ((List.range n).map fun p => .int .u64 (Dec.lr X Y p)) rfl (by simp) (by simp) ?q1 ⟨wr.heap.size, 0, none⟩ 1 1 [.int .u64 1] rfl rfl (cell_one_new _ _ _) (by simp [Value.oneCell']) (by omega) (by simp [maxLen]; omega) (by omega) ?_)
        case q1 =>
          intro b hb j u hu
          injection hb with hb
          subst hb
          have hj : j < n := by
            have := (List.getElem?_eq_some_iff.1 hu).1
            simpa using this
          have hu' : u = .int .u64 (Dec.lr X Y j) := by simpa [hj, eq_comm] using hu
          rw [hu', Addr.add_lit, Nat.zero_add, World.cell?_alloc_past _ _ _ (by show bl < _; omega), hrow.cell hj, if_pos hj]
        intro v2 w2 own2 grow2
        obtain ⟨g, c, rfl, _, k1, k2⟩ := owned_ints own2
        have hfin := added_grown HA.out hlw H1.out grow2 k1 k2
        clear own2 grow2 k1 k2 hrow
        go_wp2_with fail
        go_ret
        exact ⟨g, n + 1, c, rfl, hfin⟩

set_option maxRecDepth 100000 in
set_option maxHeartbeats 2000000 in
/-- addDecimal, the second argument longer. -/
theorem add_lt (bl bs n m : Nat) (X Y : Nat → Int) (w : World) (hn : n ≤ 1048576) (hm : m < n) (hX : Dec.Limbs X) (hY : Dec.Limbs Y) (hz : ∀ i, m ≤ i → Y i = 0)
    (hlw : bl < w.heap.size) (hne : bs ≠ bl) (hr : w.rowIs bl 24 n (fun i => .int .u64 (X i))) (hc : ∀ i, i < m → w.cell? ⟨bs, i, none⟩ = some (.int .u64 (Y i))) :
    Calls Yba.prog 5 #[.slice (some ⟨bs, 0, none⟩) m m, .slice (some ⟨bl, 0, none⟩) n n] w fun e w' => ∃ g len c, e = .returned (.slice (some ⟨g, 0, none⟩) len c) ∧ Added w bl n X Y g len w' := by
  obtain ⟨i24, hi24, hz0, hz1, hz2⟩ := info_parts info24
  have HC : Hid _ := hc
  have HX : Hid _ := hX
  have HY : Hid _ := hY
  have HZ : Hid _ := hz
  have A0 : Adds w bl n X Y 0 w := ⟨hr.congr fun i _ => by simp, fun _ _ => rfl, rfl, Below.refl _ _⟩
  clear hc hX hY hz hr
  go_enter Yba.func5, Yba.ntmps5
  go_wp2_with fail
  go_loopw [5, 17] (fun v u wr => ∃ k : Nat, u = .int .i64 k ∧ k ≤ n ∧ v = .int .u64 (Dec.lc X Y k) ∧ Adds w bl n X Y k wr) (fun _ u _ => n - (intOf u).toNat)
  case atStart => exact ⟨0, rfl, Nat.zero_le _, rfl, A0⟩
  case round =>
    clear A0
    obtain ⟨k, rfl, hk, rfl, hA⟩ := hrel
    have hcb := Dec.lc_bd HX.out HY.out k
    by_cases hlt : k < n
    · have v1 := hA.row.cell hlt
      have f1 := hA.row.frozen k
      rw [if_neg (by omega)] at v1
      have hxb := HX.out k
      have hyb := HY.out k
      have hltI : (k : Int) < (n : Int) := by omega
      by_cases hm : k < m
      · have c1 : wr.cell? ⟨bs, k, none⟩ = some (.int .u64 (Y k)) := (World.cell?_of_block (w := w) (hA.other bs hne)).trans (HC.out k hm)
        have hmI : (k : Int) < (m : Int) := by omega
        have hA2 := adds_step hA ((X k + Dec.lc X Y k + Y k) % 100000) rfl
        have hl2 : Dec.lc X Y (k + 1) = (X k + Dec.lc X Y k + Y k) / 100000 := rfl
        have HL2 : Hid _ := hl2
        clear hA hl2
        generalize Dec.lc X Y k = c at *
        generalize X k = xk at *
        generalize Y k = yk at *
        go_wp2_with fail
        go_roundw
        case rel => exact ⟨k + 1, by go_num, by omega, by rw [HL2.out], hA2⟩
        case measure => simp [intOf]; omega
      · have hmI : ¬ (k : Int) < (m : Int) := by omega
        obtain ⟨e1, e2⟩ := lr_zero (X := X) (Y := Y) (k := k) (HZ.out k (by omega))
        have hA2 := adds_step hA _ e1
        have HL2 : Hid _ := e2
        clear hA e1 e2
        generalize Dec.lc X Y k = c at *
        generalize X k = xk at *
        go_wp2_with fail
        go_roundw
        case rel => exact ⟨k + 1, by go_num, by omega, by rw [HL2.out], hA2⟩
        case measure => simp [intOf]; omega
    · obtain rfl : n = k := by omega
      by_cases h0 : Dec.lc X Y n = 0
      · have hfin := added_same hA h0
        rw [h0]
        clear hA hcb h0
        go_wp2_with fail
        go_ret
        exact ⟨bl, n, n, rfl, hfin⟩
      · have h1 : Dec.lc X Y n = 1 := by omega
        have hrow := hA.row
        rw [h1]
        have HA : Hid _ := hA
        have H1 : Hid _ := h1
        have hsz : bl < wr.heap.size := by have := hA.size; omega
        clear hA hcb h0 h1
        go_wp2_with (at_builtin; refine wpList_append_grows _ rfl (.tmp 46) (.tmp 48) 23 rfl 24 i24 (.int .u64 0) 1 8 Yba.underlying23 hi24 hz0 hz1 hz2 rfl (by decide) (some ⟨bl, 0, none⟩) n n ((List.range n).map fun p => .int .u64 (Dec.lr X Y p)) rfl (by simp) (by simp) ?q1 ⟨wr.heap.size, 0, none⟩ 1 1 [.int .u64 1] rfl rfl (cell_one_new _ _ _) (by simp [Value.oneCell']) (by omega) (by simp [maxLen]; omega) (by omega) ?_)
        case q1 =>
          intro b hb j u hu
          injection hb with hb
          subst hb
          have hj : j < n := by
            have := (List.getElem?_eq_some_iff.1 hu).1
            simpa using this
          have hu' : u = .int .u64 (Dec.lr X Y j) := by simpa [hj, eq_comm] using hu
          rw [hu', Addr.add_lit, Nat.zero_add, World.cell?_alloc_past _ _ _ (by show bl < _; omega), hrow.cell hj, if_pos hj]
        intro v2 w2 own2 grow2
        obtain ⟨g, c, rfl, _, k1, k2⟩ := owned_ints own2
        have hfin := added_grown HA.out hlw H1.out grow2 k1 k2
        clear own2 grow2 k1 k2 hrow
        go_wp2_with fail
        go_ret
        exact ⟨g, n + 1, c, rfl, hfin⟩

end Go.Proofs.Ybulkdmjo
