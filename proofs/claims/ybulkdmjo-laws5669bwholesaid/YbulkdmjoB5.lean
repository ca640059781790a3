import Derived.Test.YbulkdmjoB4
namespace Go.Proofs.Ybulkdmjo
open Go.RowKit

theorem mk5 (n : Nat) (hn : n ≤ 1048576) (w : World) :
    (Instr.makeSlice 25 (.int .i64 (5 * (n : Int))) (.int .i64 (5 * (n : Int)))).run Yba.prog w = .ok (.slice (some ⟨w.heap.size, 0, none⟩) (5 * n) (5 * n)) (w.alloc (.cells (madeCells #[.int .u8 0] (5 * n)) 5)) := by
  have h := run_make_row' (P := Yba.prog) 25 5 _ _ Yba.underlying25 info5 rfl .i64 .i64 (5 * n) (by omega) (by omega) w
  rwa [show ((5 * n : Nat) : Int) = 5 * (n : Int) from by omega] at h

theorem added_comm {w w' : World} {bl n g len : Nat} {X Y : Nat → Int} (h : Added w bl n Y X g len w') : Added w bl n X Y g len w' :=
  ⟨by rw [Dec.lc_comm]; exact h.len, fun i hi => by rw [Dec.lr_comm]; exact h.got i hi, fun h1 => h.top (by rw [Dec.lc_comm]; exact h1), fun i hi => by rw [Dec.lr_comm]; exact h.low i hi, h.other, h.bel⟩

theorem hv_step (f : Nat → Int) (i k : Nat) (h : k < 5) : Dec.hv f i (5 - k) = Dec.hv f i (5 - (k + 1)) * 10 + f (i * 5 + k) := by
  have e : 5 - k = (5 - (k + 1)) + 1 := by omega
  rw [e]
  show Dec.hv f i (5 - (k + 1)) * 10 + f (i * 5 + (4 - (5 - (k + 1)))) = _
  rw [show 4 - (5 - (k + 1)) = k by omega]

set_option maxRecDepth 100000 in
set_option maxHeartbeats 4000000 in
theorem walk_ge (a0 : Option Addr) (la cap0 : Nat) (a1 : Option Addr) (lb cap1 : Nat) (w : World) (hla : la ≤ 1048576) (hlb : lb ≤ 1048576) (hab : lb ≤ la) (b0 o0 b1 o1 : Nat)
    (X Y Z0 Z1 : Nat → Int) (hX : Dec.Limbs X) (hY : Dec.Limbs Y) (hx0 : ∀ i, la ≤ i → X i = 0) (hy0 : ∀ i, lb ≤ i → Y i = 0)
    (hzx : ∀ i, i < la → 0 ≤ Z0 i ∧ X i = Z0 i % 100000) (hzy : ∀ i, i < lb → 0 ≤ Z1 i ∧ Y i = Z1 i % 100000)
    (ha0 : 0 < la → a0 = some ⟨b0, o0, none⟩) (ha1 : 0 < lb → a1 = some ⟨b1, o1, none⟩)
    (hc0 : ∀ i, i < la → w.cell? ⟨b0, o0 + i, none⟩ = some (.int .u64 (Z0 i))) (hc1 : ∀ i, i < lb → w.cell? ⟨b1, o1 + i, none⟩ = some (.int .u64 (Z1 i))) :
    Calls Yba.prog 3 #[.slice a0 la cap0, .slice a1 lb cap1] w fun e w' => e = .returned (.bool true) ∧ Below w.heap.size w w' := by
  have mk0 := run_make_row' (P := Yba.prog) 23 24 _ _ Yba.underlying23 info24 rfl .i64 .i64 la (by omega) (by omega)
  have mk1 := run_make_row' (P := Yba.prog) 22 24 _ _ Yba.underlying22 info24 rfl .i64 .i64 la (by omega) (by omega)
  have mk2 := run_make_row' (P := Yba.prog) 23 24 _ _ Yba.underlying23 info24 rfl .i64 .i64 lb (by omega) (by omega)
  have mk3 := run_make_row' (P := Yba.prog) 22 24 _ _ Yba.underlying22 info24 rfl .i64 .i64 lb (by omega) (by omega)
  have hd0 : decide ((1048576 : Int) < (la : Int)) = false := by simp; omega
  have hd1 : decide ((1048576 : Int) < (lb : Int)) = false := by simp; omega
  have HX : Hid _ := hX
  have HY : Hid _ := hY
  have HX0 : Hid _ := hx0
  have HY0 : Hid _ := hy0
  have HZX : Hid _ := hzx
  have HZY : Hid _ := hzy
  have HA0 : Hid _ := ha0
  have HA1 : Hid _ := ha1
  have HC0 : Hid _ := hc0
  have HC1 : Hid _ := hc1
  have hb0 : ∀ i, i < la → b0 < w.heap.size := fun i hi => World.block_lt_of_cell? w _ (hc0 i hi)
  have hb1 : ∀ i, i < lb → b1 < w.heap.size := fun i hi => World.block_lt_of_cell? w _ (hc1 i hi)
  clear hX hY hx0 hy0 hzx hzy ha0 ha1 hc0 hc1
  go_enter Yba.func3, Yba.ntmps3
  go_wp2_with fail
  have T0 := two_start w _ la X rfl
  generalize hB : w.heap.size = B at *
  have HB : Hid _ := hB
  clear hB
  go_loopw [7] (fun v wr => ∃ k : Nat, v = .int .i64 k ∧ k ≤ la ∧ Two w B la X k wr) (fun v _ => la - (intOf v).toNat)
  case atStart => exact ⟨0, rfl, Nat.zero_le _, T0⟩
  case round =>
    clear T0
    obtain ⟨k, rfl, hk, hT⟩ := hrel
    by_cases hlt : k < la
    · have e0 := HA0.out (by omega)
      subst e0
      have c0 : wr.cell? ⟨b0, o0 + k, none⟩ = some (.int .u64 (Z0 k)) := (hT.bel.cell (p := ⟨b0, o0 + k, none⟩) (hb0 k hlt)).trans (HC0.out k hlt)
      have hz := (HZX.out k hlt).1
      have v1 := hT.fst.cell hlt
      have v2 := hT.snd.cell hlt
      rw [if_neg (by omega)] at v1 v2
      have f1 := hT.fst.frozen k
      have f2 := hT.snd.frozen k
      have hT2 := two_step hT _ (HZX.out k hlt).2
      have hltI : (k : Int) < (la : Int) := by omega
      clear hT
      go_wp2_with fail
      go_roundw
      case rel => exact ⟨k + 1, by go_num, hlt, hT2⟩
      case measure => simp [intOf]; omega
    · obtain rfl : la = k := by omega
      have hsz : wr.heap.size = B + 1 + 1 := hT.size
      have T0 := two_start wr _ lb Y hsz
      have HT : Hid (Two w B la X la wr) := hT
      clear hT
      go_wp2_with fail
      go_loopw [10] (fun v wz => ∃ k : Nat, v = .int .i64 k ∧ k ≤ lb ∧ Two wr (B + 1 + 1) lb Y k wz) (fun v _ => lb - (intOf v).toNat)
      case atStart => exact ⟨0, rfl, Nat.zero_le _, T0⟩
      case round =>
        clear T0 mk0 mk1 mk2 mk3 hsz
        obtain ⟨k, rfl, hk, hT⟩ := hrel
        by_cases hlt : k < lb
        · have e0 := HA1.out (by omega)
          subst e0
          have hbw := HT.out.bel.trans (hT.bel.mono (by omega))
          have c0 : wr.cell? ⟨b1, o1 + k, none⟩ = some (.int .u64 (Z1 k)) := (hbw.cell (p := ⟨b1, o1 + k, none⟩) (hb1 k hlt)).trans (HC1.out k hlt)
          have hz := (HZY.out k hlt).1
          have v1 := hT.fst.cell hlt
          have v2 := hT.snd.cell hlt
          rw [if_neg (by omega)] at v1 v2
          have f1 := hT.fst.frozen k
          have f2 := hT.snd.frozen k
          have hT2 := two_step hT _ (HZY.out k hlt).2
          have hltI : (k : Int) < (lb : Int) := by omega
          clear hT hbw
          go_wp2_with fail
          go_roundw
          case rel => exact ⟨k + 1, by go_num, hlt, hT2⟩
          case measure => simp [intOf]; omega
        · obtain rfl : lb = k := by omega
          obtain ⟨W2, rfl⟩ : ∃ W2, W2 = wr := ⟨_, rfl⟩
          have hbw : Below B w W2 := HT.out.bel.trans (hT.bel.mono (by omega))
          obtain ⟨rX, rX2⟩ := two_full HT.out
          obtain ⟨rY, rY2⟩ := two_full hT
          have rX' := rX.of_block (hT.bel.block B (by omega))
          have rX2' := rX2.of_block (hT.bel.block (B + 1) (by omega))
          have hs2 : W2.heap.size = B + 1 + 1 + 1 + 1 := hT.size
          have HrX : Hid (W2.rowIs B 24 la fun i => .int .u64 (X i)) := rX'
          have HrX2 : Hid (W2.rowIs (B + 1) 24 la fun i => .int .u64 (X i)) := rX2'
          have HrY : Hid (W2.rowIs (B + 1 + 1) 24 lb fun i => .int .u64 (Y i)) := rY
          have HrY2 : Hid (W2.rowIs (B + 1 + 1 + 1) 24 lb fun i => .int .u64 (Y i)) := rY2
          have HBW : Hid (Below B w W2) := hbw
          have habI : ¬ (la : Int) < (lb : Int) := by omega
          clear rX rX2 rY rY2 rX' rX2' hbw hT HT hk hlt
          go_wp2_with fail
          refine (digits_any (B + 1) la la X W2 (by omega) (by omega) HX.out HX0.out (fun i hi => HrX2.out.cell hi)).mono ?_
          rintro e W3 ⟨rfl, hda, hb3, hs3⟩
          rw [hs2] at hda hb3 hs3 ⊢
          have c3 : ∀ i, i < lb → W3.cell? ⟨B + 1 + 1 + 1, i, none⟩ = some (.int .u64 (Y i)) := fun i hi => (hb3.cell (p := ⟨B + 1 + 1 + 1, i, none⟩) (by show B + 1 + 1 + 1 < _; omega)).trans (HrY2.out.cell hi)
          have C3 : Hid _ := c3
          have Hda : Hid (W3.rowIs (B + 1 + 1 + 1 + 1) 5 (la * 5) fun q => .int .u8 (Dec.dg X q)) := hda
          have Hb3 : Hid (Below (B + 1 + 1 + 1 + 1) W2 W3) := hb3
          clear c3 hda hb3
          go_wp2_with fail
          refine (digits_any (B + 1 + 1 + 1) lb la Y W3 (by omega) (by omega) HY.out HY0.out C3.out).mono ?_
          rintro e W4 ⟨rfl, hdb, hb4, hs4⟩
          rw [hs3] at hdb hb4 hs4 ⊢
          have hda4 := Hda.out.of_block (hb4.block (B + 1 + 1 + 1 + 1) (by omega))
          have Hda4 : Hid (W4.rowIs (B + 1 + 1 + 1 + 1) 5 (la * 5) fun q => .int .u8 (Dec.dg X q)) := hda4
          have Hdb : Hid (W4.rowIs (B + 1 + 1 + 1 + 1 + 1) 5 (la * 5) fun q => .int .u8 (Dec.dg Y q)) := hdb
          have Hb4 : Hid (Below (B + 1 + 1 + 1 + 1) W2 W4) := Hb3.out.trans (hb4.mono (by omega))
          have F0 := fill_start W4 _ 5 (5 * la) (fun q => .int .u8 (Dec.sm X Y q)) (.int .u8 0) hs4
          have mk5 := mk5 la (by omega)
          clear hdb hda4 hb4 C3 Hda Hb3 hs3 hs2
          go_wp2_with fail
          go_loopw [15, 16] (fun v u wz => ∃ m : Nat, u = .int .i64 m ∧ m ≤ 5 * la ∧ v = .int .u8 (Dec.cy X Y m) ∧ Fill W4 (B + 1 + 1 + 1 + 1 + 1 + 1) 5 (5 * la) (fun q => .int .u8 (Dec.sm X Y q)) (.int .u8 0) m wz) (fun _ u _ => 5 * la - (intOf u).toNat)
          case atStart => exact ⟨0, rfl, Nat.zero_le _, rfl, F0⟩
          case round =>
            clear F0 mk5 hs4
            obtain ⟨m, rfl, hm, rfl, hF⟩ := hrel
            by_cases hlt : m < 5 * la
            · have x1 := (Hda4.out.of_block (hF.bel.block (B + 1 + 1 + 1 + 1) (by omega))).cell (i := m) (by omega)
              have x2 := (Hdb.out.of_block (hF.bel.block (B + 1 + 1 + 1 + 1 + 1) (by omega))).cell (i := m) (by omega)
              have hx := Dec.dg_bd (X := X) m
              have hy := Dec.dg_bd (X := Y) m
              have hcb := Dec.cy_bd X Y m
              have hsv : Dec.sm X Y m = (Dec.dg X m + Dec.dg Y m + Dec.cy X Y m) % 10 := rfl
              have hcv : Dec.cy X Y (m + 1) = (Dec.dg X m + Dec.dg Y m + Dec.cy X Y m) / 10 := rfl
              have HCV : Hid _ := hcv
              have HSV : Hid _ := hsv
              have hl5 : (m : Int) < ((la * 5 : Nat) : Int) := by omega
              have hl6 : (m : Int) < ((5 * la : Nat) : Int) := by omega
              clear hsv hcv
              generalize Dec.dg X m = x at *
              generalize Dec.dg Y m = y at *
              generalize Dec.cy X Y m = c at *
              go_wp2_with fail
              go_quiet (fail)
              have hF2 := hF.drewN nq
              clear hF x1 x2
              generalize wr.drewN nq = wq at *
              have v1 := hF2.row.cell (i := m) (by omega)
              have f1 := hF2.row.frozen m
              rw [if_neg (by omega)] at v1
              have hF3 := fill_step hF2 (.int .u8 ((x + y + c) % 10)) (congrArg (Value.int .u8) HSV.out)
              clear hF2
              go_wp2_with fail
              go_roundw
              case rel => exact ⟨m + 1, by go_num, by omega, by rw [HCV.out], hF3⟩
              case measure => simp [intOf]; omega
            · obtain rfl : m = 5 * la := by omega
              obtain ⟨W5, rfl⟩ : ∃ W5, W5 = wr := ⟨_, rfl⟩
              have hs5 : W5.heap.size = B + 1 + 1 + 1 + 1 + 1 + 1 + 1 := hF.size
              have HS5 : Hid (W5.rowIs (B + 1 + 1 + 1 + 1 + 1 + 1) 5 (5 * la) fun q => .int .u8 (Dec.sm X Y q)) := hF.row.congr fun i hi => by rw [if_pos hi]
              have Hb5 : Hid (Below (B + 1 + 1 + 1 + 1) W2 W5) := Hb4.out.trans (hF.bel.mono (by omega))
              have hcl : Dec.cy X Y (5 * la) = Dec.lc X Y la := by rw [Nat.mul_comm]; exact (Dec.cy_limb HX.out HY.out la).1
              rw [hcl]
              have F0 := fill_start W5 _ 24 (la + 1) (fun p => .int .u64 (Dec.lr X Y p)) (.int .u64 0) hs5
              have mkw := mk_want la (by omega)
              have hlc := Dec.lc_bd HX.out HY.out la
              clear hF hcl Hda4 Hdb Hb4 hm hlt
              go_wp2_with fail
              go_loopw [19] (fun v wz => ∃ q : Nat, v = .int .i64 q ∧ q ≤ la ∧ Fill W5 (B + 1 + 1 + 1 + 1 + 1 + 1 + 1) 24 (la + 1) (fun p => .int .u64 (Dec.lr X Y p)) (.int .u64 0) q wz) (fun v _ => la - (intOf v).toNat)
              case atStart => exact ⟨0, rfl, Nat.zero_le _, F0⟩
              case round =>
                clear F0 mkw hs5
                obtain ⟨q, rfl, hq, hF⟩ := hrel
                by_cases hlt : q < la
                · have hltI : (q : Int) < (la : Int) := by omega
                  have hs : ∀ k, k < 5 → wr.cell? ⟨B + 1 + 1 + 1 + 1 + 1 + 1, q * 5 + k, none⟩ = some (.int .u8 (Dec.sm X Y (q * 5 + k))) := fun k hk => (HS5.out.of_block (hF.bel.block (B + 1 + 1 + 1 + 1 + 1 + 1) (by omega))).cell (i := q * 5 + k) (by omega)
                  have HS : Hid _ := hs
                  have v1 := hF.row.cell (i := q) (by omega)
                  have f1 := hF.row.frozen q
                  rw [if_neg (by omega)] at v1
                  have hF2 := fill_step hF (.int .u64 (Dec.hv (Dec.sm X Y) q 5)) (congrArg (Value.int .u64) (Dec.cy_limb HX.out HY.out q).2.1.symm)
                  have HF2 : Hid _ := hF2
                  clear hF hF2 hs
                  go_wp2_with fail
                  go_loop [20, 21] (fun v u => ∃ kk : Nat, kk ≤ 5 ∧ u = .int .i64 ((kk : Int) - 1) ∧ v = .int .u64 (Dec.hv (Dec.sm X Y) q (5 - kk))) (fun _ u => (intOf u + 1).toNat)
                  case atStart => exact ⟨5, by omega, rfl, rfl⟩
                  case round =>
                    obtain ⟨kk, hkk, rfl, rfl⟩ := hrel
                    by_cases hk0 : kk = 0
                    · subst hk0
                      have HF3 := HF2
                      go_wp2_with fail
                      go_roundw
                      case rel => exact ⟨q + 1, by go_num, by omega, HF3.out⟩
                      case measure => simp [intOf]; omega
                    · obtain ⟨k, rfl⟩ : ∃ k, kk = k + 1 := ⟨kk - 1, by omega⟩
                      have hk5 : k < 5 := by omega
                      have hst := hv_step (Dec.sm X Y) q k hk5
                      have hvb := Dec.hv_bd (Dec.sm_bd X Y) q (5 - (k + 1)) (by omega)
                      have hsb := Dec.sm_bd X Y (q * 5 + k)
                      have c1 := HS.out k hk5
                      have HST : Hid _ := hst
                      rw [show (((k + 1 : Nat) : Int) - 1) = (k : Int) by omega]
                      have hk5I : (0 : Int) ≤ (k : Int) := by omega
                      have hin : (q : Int) * 5 + (k : Int) < ((5 * la : Nat) : Int) := by omega
                      clear hst
                      generalize Dec.hv (Dec.sm X Y) q (5 - (k + 1)) = v at *
                      generalize Dec.sm X Y (q * 5 + k) = d at *
                      go_wp2_with fail
                      go_round
                      case rel => exact ⟨k, by omega, by go_num, by rw [HST.out]⟩
                      case measure => simp [intOf]
                · obtain rfl : la = q := by omega
                  obtain ⟨W6, rfl⟩ : ∃ W6, W6 = wr := ⟨_, rfl⟩
                  have hs6 : W6.heap.size = B + 1 + 1 + 1 + 1 + 1 + 1 + 1 + 1 := hF.size
                  have hb6 : Below (B + 1 + 1 + 1 + 1) W2 W6 := Hb5.out.trans (hF.bel.mono (by omega))
                  have q1 := HrX.out.of_block (hb6.block B (by omega))
                  have q2 := HrX2.out.of_block (hb6.block (B + 1) (by omega))
                  have q3 := HrY.out.of_block (hb6.block (B + 1 + 1) (by omega))
                  have q4 := HrY2.out.of_block (hb6.block (B + 1 + 1 + 1) (by omega))
                  have qw := hF.row
                  have qb : Below B w W6 := HBW.out.trans (hb6.mono (by omega))
                  clear hF Hb5 HS5 hq hlt hb6
                  by_cases h0 : Dec.lc X Y la = 0
                  · rw [h0]
                    have Q1 : Hid (W6.rowIs B 24 la fun i => .int .u64 (X i)) := q1
                    have Q3 : Hid (W6.rowIs (B + 1 + 1) 24 lb fun i => .int .u64 (Y i)) := q3
                    have HWT : Hid (∀ i, i < la → W6.cell? ⟨B + 1 + 1 + 1 + 1 + 1 + 1 + 1, i, none⟩ = some (.int .u64 (Dec.lr X Y i))) := fun i hi => by rw [qw.cell (i := i) (by omega), if_pos hi]
                    have HSN : Hid (∀ i, i < lb → W6.cell? ⟨B + 1 + 1 + 1, i, none⟩ = some (.int .u64 (Y i))) := fun i hi => q4.cell hi
                    have HQB : Hid (Below B w W6) := qb
                    have H0 : Hid (Dec.lc X Y la = 0) := h0
                    have hWs : B + 1 + 1 + 1 + 1 + 1 + 1 + 1 < W6.heap.size := by omega
                    clear q1 q2 q3 q4 qw qb hlc h0 hs6
                    go_wp2_with fail
                    refine (add_ge B (B + 1 + 1) la lb X Y W6 (by omega) hab HX.out HY.out HY0.out (by omega) (by omega) Q1.out (fun i hi => Q3.out.cell hi)).mono ?_
                    rintro e W8 ⟨g, len, c, rfl, hadd⟩
                    obtain rfl : la = len := by have := hadd.len; rw [H0.out] at this; simpa using this.symm
                    have HGOT : Hid (∀ i, i < la → W8.cell? ⟨g, i, none⟩ = some (.int .u64 (Dec.lr X Y i))) := hadd.got
                    have HWT8 : Hid (∀ i, i < la → W8.cell? ⟨B + 1 + 1 + 1 + 1 + 1 + 1 + 1, i, none⟩ = some (.int .u64 (Dec.lr X Y i))) := fun i hi => (hadd.other _ _ hWs (by omega)).trans (HWT.out i hi)
                    have HLOW : Hid (∀ i, i < la → W8.cell? ⟨B, i, none⟩ = some (.int .u64 (Dec.lr X Y i))) := hadd.low
                    have HSH8 : Hid (∀ i, i < lb → W8.cell? ⟨B + 1 + 1, i, none⟩ = some (.int .u64 (Y i))) := fun i hi => (hadd.other _ _ (by omega) (by omega)).trans (Q3.out.cell hi)
                    have HSN8 : Hid (∀ i, i < lb → W8.cell? ⟨B + 1 + 1 + 1, i, none⟩ = some (.int .u64 (Y i))) := fun i hi => (hadd.other _ _ (by omega) (by omega)).trans (HSN.out i hi)
                    have HBEL : Hid (Below B w W8) := HQB.out.trans (hadd.bel.mono (by omega))
                    clear hadd
                    go_wp2_with fail
                    go_loopw [23] (fun v wz => ∃ (k m : Nat), v = .int .i64 k ∧ k ≤ la ∧ wz = W8.drewN m) (fun v _ => la - (intOf v).toNat)
                    case atStart => exact ⟨0, 0, rfl, Nat.zero_le _, rfl⟩
                    case round =>
                      obtain ⟨k, m, rfl, hk, rfl⟩ := hrel
                      by_cases hlt : k < la
                      · have x1 := HGOT.out k hlt
                        have x2 := HWT8.out k hlt
                        have hltI : (k : Int) < ((la : Nat) : Int) := by omega
                        generalize Dec.lr X Y k = v at *
                        go_wp2_with fail
                        go_quiet (fail)
                        go_wp2_with fail
                        go_roundw
                        case rel => exact ⟨k + 1, _, by go_num, by omega, rfl⟩
                        case measure => simp [intOf]; omega
                      · obtain rfl : la = k := by omega
                        go_wp2_with fail
                        go_loopw [27] (fun v wz => ∃ (k m : Nat), v = .int .i64 k ∧ k ≤ la ∧ wz = W8.drewN m) (fun v _ => la - (intOf v).toNat)
                        case atStart => exact ⟨0, _, rfl, Nat.zero_le _, rfl⟩
                        case round =>
                          obtain ⟨k, m, rfl, hk, rfl⟩ := hrel
                          by_cases hlt : k < la
                          · have x1 := HLOW.out k hlt
                            have x2 : W8.cell? ⟨B + 1 + 1 + 1 + 1 + 1 + 1 + 1, k, none⟩ = some (.int .u64 (Dec.lr X Y k)) := HWT8.out k hlt
                            have hltI : (k : Int) < (la : Int) := by omega
                            generalize Dec.lr X Y k = v at *
                            go_wp2_with fail
                            go_quiet (fail)
                            go_wp2_with fail
                            go_roundw
                            case rel => exact ⟨k + 1, _, by go_num, by omega, rfl⟩
                            case measure => simp [intOf]; omega
                          · obtain rfl : la = k := by omega
                            go_wp2_with fail
                            go_loopw [28] (fun v wz => ∃ (j m : Nat), v = .int .i64 j ∧ j ≤ lb ∧ wz = W8.drewN m) (fun v _ => lb - (intOf v).toNat)
                            case atStart => exact ⟨0, _, rfl, Nat.zero_le _, rfl⟩
                            case round =>
                              obtain ⟨j, m, rfl, hj, rfl⟩ := hrel
                              by_cases hlt : j < lb
                              · have x1 := HSH8.out j hlt
                                have x2 := HSN8.out j hlt
                                have hltI : (j : Int) < (lb : Int) := by omega
                                generalize Y j = v at *
                                go_wp2_with fail
                                go_quiet (fail)
                                go_wp2_with fail
                                go_roundw
                                case rel => exact ⟨j + 1, _, by go_num, by omega, rfl⟩
                                case measure => simp [intOf]; omega
                              · obtain rfl : lb = j := by omega
                                go_wp2_with fail
                                go_ret
                                exact ⟨rfl, below_drewN (HB.out ▸ HBEL.out) _⟩
                  · have h1 : Dec.lc X Y la = 1 := by omega
                    rw [h1]
                    have Q1 : Hid (W6.rowIs B 24 la fun i => .int .u64 (X i)) := q1
                    have Q2 : Hid (W6.rowIs (B + 1) 24 la fun i => .int .u64 (X i)) := q2
                    have Q3 : Hid (W6.rowIs (B + 1 + 1) 24 lb fun i => .int .u64 (Y i)) := q3
                    have Q4 : Hid (W6.rowIs (B + 1 + 1 + 1) 24 lb fun i => .int .u64 (Y i)) := q4
                    have HQB : Hid (Below B w W6) := qb
                    have H1 : Hid (Dec.lc X Y la = 1) := h1
                    have hown : W6.ownsRow (B + 1 + 1 + 1 + 1 + 1 + 1 + 1) 24 1 (.slice (some ⟨B + 1 + 1 + 1 + 1 + 1 + 1 + 1, 0, none⟩) la (la + 1)) la ((List.range la).map fun p => .int .u64 (Dec.lr X Y p)) := by
                      have := owns_of_row (base := B + 1 + 1 + 1 + 1 + 1 + 1 + 1) (n := la) qw (Nat.le_refl _) (by omega) (by unfold maxLen; omega)
                      rwa [show ((List.range la).map fun i => if i < la then Value.int .u64 (Dec.lr X Y i) else Value.int .u64 0) = (List.range la).map fun p => Value.int .u64 (Dec.lr X Y p) from List.map_congr_left (fun i hi => by rw [if_pos (by simpa using hi)])] at this
                    obtain ⟨i24, hi24, hz0, hz1, hz2⟩ := info_parts info24
                    clear q1 q2 q3 q4 qw qb hlc h0 h1
                    go_wp2_with (at_builtin; refine wpList_append_fits _ rfl (.tmp 162) (.tmp 163) 22 rfl (B + 1 + 1 + 1 + 1 + 1 + 1 + 1) 24 i24 1 Yba.underlying22 hi24 hz1 (B + 1 + 1 + 1 + 1 + 1 + 1 + 1) la (la + 1) _ rfl (hown.alloc _) ⟨B + 1 + 1 + 1 + 1 + 1 + 1 + 1 + 1, 0, none⟩ 1 1 [.int .u64 1] rfl rfl ?q1 (by simp [Value.oneCell']) (by omega) ?_)
                    case q1 =>
                      have := cell_one_new W6 (.int .u64 1) 24
                      rwa [hs6] at this
                    intro W7 own7 grow7
                    obtain ⟨t1, t2, t3, t4, t5⟩ := want_top own7 grow7
                    have HWT : Hid (∀ i, i < la → W7.cell? ⟨B + 1 + 1 + 1 + 1 + 1 + 1 + 1, i, none⟩ = some (.int .u64 (Dec.lr X Y i))) := t1
                    have HTOP : Hid (W7.cell? ⟨B + 1 + 1 + 1 + 1 + 1 + 1 + 1, la, none⟩ = some (.int .u64 1)) := t2
                    have Q1' : Hid (W7.rowIs B 24 la fun i => .int .u64 (X i)) := Q1.out.of_block (t3 B (by omega) (by omega))
                    have Q3' : Hid (W7.rowIs (B + 1 + 1) 24 lb fun i => .int .u64 (Y i)) := Q3.out.of_block (t3 (B + 1 + 1) (by omega) (by omega))
                    have HSN : Hid (∀ i, i < lb → W7.cell? ⟨B + 1 + 1 + 1, i, none⟩ = some (.int .u64 (Y i))) := fun i hi => (Q4.out.of_block (t3 (B + 1 + 1 + 1) (by omega) (by omega))).cell hi
                    have HQB7 : Hid (Below B w W7) := HQB.out.trans (t5 B (by omega) (by omega))
                    have hWs : B + 1 + 1 + 1 + 1 + 1 + 1 + 1 < W7.heap.size := by omega
                    clear own7 grow7 t1 t2 t3 t4 t5 hown Q1 Q2 Q3 Q4 HQB hs6
                    go_wp2_with fail
                    refine (add_ge B (B + 1 + 1) la lb X Y W7 (by omega) hab HX.out HY.out HY0.out (by omega) (by omega) Q1'.out (fun i hi => Q3'.out.cell hi)).mono ?_
                    rintro e W8 ⟨g, len, c, rfl, hadd⟩
                    obtain rfl : len = la + 1 := by have := hadd.len; rw [H1.out] at this; simpa using this
                    have HGOT : Hid (∀ i, i < la + 1 → W8.cell? ⟨g, i, none⟩ = some (.int .u64 (if i < la then Dec.lr X Y i else 1))) := fun i hi => by
                      by_cases e : i < la
                      · rw [if_pos e]; exact hadd.got i e
                      · rw [if_neg e, show i = la by omega]; exact hadd.top H1.out
                    have HWT8 : Hid (∀ i, i < la + 1 → W8.cell? ⟨B + 1 + 1 + 1 + 1 + 1 + 1 + 1, i, none⟩ = some (.int .u64 (if i < la then Dec.lr X Y i else 1))) := fun i hi => by
                      rw [hadd.other _ _ hWs (by omega)]
                      by_cases e : i < la
                      · rw [if_pos e]; exact HWT.out i e
                      · rw [if_neg e, show i = la by omega]; exact HTOP.out
                    have HLOW : Hid (∀ i, i < la → W8.cell? ⟨B, i, none⟩ = some (.int .u64 (Dec.lr X Y i))) := hadd.low
                    have HSH8 : Hid (∀ i, i < lb → W8.cell? ⟨B + 1 + 1, i, none⟩ = some (.int .u64 (Y i))) := fun i hi => (hadd.other _ _ (by omega) (by omega)).trans (Q3'.out.cell hi)
                    have HSN8 : Hid (∀ i, i < lb → W8.cell? ⟨B + 1 + 1 + 1, i, none⟩ = some (.int .u64 (Y i))) := fun i hi => (hadd.other _ _ (by omega) (by omega)).trans (HSN.out i hi)
                    have HBEL : Hid (Below B w W8) := HQB7.out.trans (hadd.bel.mono (by omega))
                    clear hadd
                    go_wp2_with fail
                    go_loopw [23] (fun v wz => ∃ (k m : Nat), v = .int .i64 k ∧ k ≤ la + 1 ∧ wz = W8.drewN m) (fun v _ => la + 1 - (intOf v).toNat)
                    case atStart => exact ⟨0, 0, rfl, Nat.zero_le _, rfl⟩
                    case round =>
                      obtain ⟨k, m, rfl, hk, rfl⟩ := hrel
                      by_cases hlt : k < la + 1
                      · have x1 := HGOT.out k hlt
                        have x2 := HWT8.out k hlt
                        have hltI : (k : Int) < ((la + 1 : Nat) : Int) := by omega
                        generalize (if k < la then Dec.lr X Y k else 1) = v at *
                        go_wp2_with fail
                        go_quiet (fail)
                        go_wp2_with fail
                        go_roundw
                        case rel => exact ⟨k + 1, _, by go_num, by omega, rfl⟩
                        case measure => simp [intOf]; omega
                      · obtain rfl : la + 1 = k := by omega
                        go_wp2_with fail
                        go_loopw [27] (fun v wz => ∃ (k m : Nat), v = .int .i64 k ∧ k ≤ la ∧ wz = W8.drewN m) (fun v _ => la - (intOf v).toNat)
                        case atStart => exact ⟨0, _, rfl, Nat.zero_le _, rfl⟩
                        case round =>
                          obtain ⟨k, m, rfl, hk, rfl⟩ := hrel
                          by_cases hlt : k < la
                          · have x1 := HLOW.out k hlt
                            have x2 : W8.cell? ⟨B + 1 + 1 + 1 + 1 + 1 + 1 + 1, k, none⟩ = some (.int .u64 (Dec.lr X Y k)) := (by have := HWT8.out k (by omega); rwa [if_pos hlt] at this)
                            have hltI : (k : Int) < (la : Int) := by omega
                            generalize Dec.lr X Y k = v at *
                            go_wp2_with fail
                            go_quiet (fail)
                            go_wp2_with fail
                            go_roundw
                            case rel => exact ⟨k + 1, _, by go_num, by omega, rfl⟩
                            case measure => simp [intOf]; omega
                          · obtain rfl : la = k := by omega
                            go_wp2_with fail
                            go_loopw [28] (fun v wz => ∃ (j m : Nat), v = .int .i64 j ∧ j ≤ lb ∧ wz = W8.drewN m) (fun v _ => lb - (intOf v).toNat)
                            case atStart => exact ⟨0, _, rfl, Nat.zero_le _, rfl⟩
                            case round =>
                              obtain ⟨j, m, rfl, hj, rfl⟩ := hrel
                              by_cases hlt : j < lb
                              · have x1 := HSH8.out j hlt
                                have x2 := HSN8.out j hlt
                                have hltI : (j : Int) < (lb : Int) := by omega
                                generalize Y j = v at *
                                go_wp2_with fail
                                go_quiet (fail)
                                go_wp2_with fail
                                go_roundw
                                case rel => exact ⟨j + 1, _, by go_num, by omega, rfl⟩
                                case measure => simp [intOf]; omega
                              · obtain rfl : lb = j := by omega
                                go_wp2_with fail
                                go_ret
                                exact ⟨rfl, below_drewN (HB.out ▸ HBEL.out) _⟩

end Go.Proofs.Ybulkdmjo
