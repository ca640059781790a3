import Derived.Test.YbulkdmimA8
import Derived.Deep.Cut
namespace Go.Proofs.Ybulkdmim
open Go.RowKit

set_option maxRecDepth 100000 in
set_option maxHeartbeats 4000000 in
theorem walk_a (a0 : Option Addr) (n cap0 : Nat) (a1 : Option Addr) (len1 cap1 : Nat) (w : World) (hn : n ≤ 1048576) (b0 o0 b1 o1 : Nat) (hl1 : len1 ≤ maxLen)
    (P Ck O Z1 : Nat → Int) (hO : ∀ i, i < n → O i = Ck i) (hOn : O n = 0) (ha0 : 0 < n → a0 = some ⟨b0, o0, none⟩) (ha1 : 0 < len1 → a1 = some ⟨b1, o1, none⟩) (hc0 : ∀ i, i < n → w.cell? ⟨b0, o0 + i, none⟩ = some (.int .i64 (P i)))
    (hc1 : ∀ i, i < len1 → w.cell? ⟨b1, o1 + i, none⟩ = some (.int .i64 (Z1 i))) (hC1 : ∀ i, i < len1 → Ck i = Z1 i) (hC2 : ∀ i, ¬ i < len1 → Ck i = i) :
    Calls Yba.prog 3 #[.slice a0 n cap0, .slice a1 len1 cap1, .int .i64 (P n)] w fun e w' => e = .returned (.bool true) ∧ Below w.heap.size w w' := by
  unfold maxLen at hl1
  have m24 := mk1 24 26 _ _ n Yba.underlying24 info26 rfl (by omega) hn
  have m23 := mk1 23 3 _ _ n Yba.underlying23 info3' rfl (by omega) hn
  have m22 := mk1 22 2 _ _ n Yba.underlying22 info2 rfl (by omega) hn
  have m47 := mk1 47 4 _ _ n Yba.underlying47 info4 rfl (by omega) hn
  have m25 := run_make_row' (P := Yba.prog) 25 26 _ _ Yba.underlying25 info26 rfl .i64 .i64 n (by omega) (by omega)
  have hd0 : decide ((1048576 : Int) < (n : Int)) = false := by simp; omega
  have HA0 : Hid _ := ha0
  have HA1 : Hid _ := ha1
  have HC0 : Hid _ := hc0
  have HC1 : Hid _ := hc1
  have HD1 : Hid _ := hC1
  have HD2 : Hid _ := hC2
  have HO : Hid _ := hO
  have HOn : Hid _ := hOn
  have hb0 : ∀ i, i < n → b0 < w.heap.size := fun i hi => World.block_lt_of_cell? w _ (hc0 i hi)
  have hb1 : ∀ i, i < len1 → b1 < w.heap.size := fun i hi => World.block_lt_of_cell? w _ (hc1 i hi)
  clear ha0 ha1 hc0 hc1 hC1 hC2 hO hOn
  go_enter Yba.func3, Yba.ntmps3
  go_wp2_with fail
  have L0 := laid_start w n P Ck
  generalize hB : w.heap.size = B at *
  have HB : Hid _ := hB
  clear hB
  go_loopw [11] (fun v wr => ∃ k : Nat, v = .int .i64 k ∧ k ≤ n ∧ Laid w B n P Ck k wr) (fun v _ => n - (intOf v).toNat)
  case atStart => exact ⟨0, rfl, Nat.zero_le _, L0⟩
  case round =>
    clear L0
    obtain ⟨k, rfl, hk, hL⟩ := hrel
    by_cases hlt : k < n
    · have e0 := HA0.out (by omega)
      subst e0
      have c0 : wr.cell? ⟨b0, o0 + k, none⟩ = some (.int .i64 (P k)) := (hL.bel.cell (p := ⟨b0, o0 + k, none⟩) (hb0 k hlt)).trans (HC0.out k hlt)
      have v1 := hL.lines.cell (i := k) (by omega)
      have v2 := hL.heap.cell (i := k) (by omega)
      have v3 := hL.orig.cell (i := k) (by omega)
      rw [if_neg (by omega)] at v1 v2 v3
      have f1 := hL.lines.frozen k
      have f2 := hL.heap.frozen k
      have f3 := hL.orig.frozen k
      have vv := hL.var
      have ss : B + 1 + 1 + 1 < wr.heap.size := by have := hL.size; omega
      have ss0 : B < wr.heap.size := by omega
      have ss1 : B + 1 < wr.heap.size := by omega
      have ss2 : B + 1 + 1 < wr.heap.size := by omega
      have hb0' : b0 < B := hb0 k hlt
      by_cases h1 : k < len1
      · have e1 := HA1.out (by omega)
        subst e1
        have c1 : wr.cell? ⟨b1, o1 + k, none⟩ = some (.int .i64 (Z1 k)) := (hL.bel.cell (p := ⟨b1, o1 + k, none⟩) (hb1 k h1)).trans (HC1.out k h1)
        have hL2 := laid_step hL hlt (Z1 k) (HD1.out k h1)
        clear hL
        go_wp2_with fail
        go_roundw
        case rel => exact ⟨k + 1, by go_num, hlt, hL2⟩
        case measure => simp [intOf]; omega
      · have hL2 := laid_step hL hlt k (HD2.out k h1)
        clear hL
        go_wp2_with fail
        go_roundw
        case rel => exact ⟨k + 1, by go_num, hlt, hL2⟩
        case measure => simp [intOf]; omega
    · obtain rfl : n = k := by omega
      obtain ⟨hbase, hbel⟩ := base_of hL HO.out HOn.out
      have vn := hL.lines.cell (i := n) (by omega)
      rw [if_neg (by omega)] at vn
      have fn := hL.lines.frozen n
      have hsz : wr.heap.size = B + 4 + n := hL.size
      have bb : B < B + 4 + n := by omega
      obtain ⟨W5, hW5⟩ : ∃ W5, W5 = (wr.setCell ⟨B, n, none⟩ (.pointer (some ⟨B + 4 + n, 0, none⟩))).alloc (.cells (lineCells (P n) n (-1)) 46) := ⟨_, rfl⟩
      rw [← hW5] at hbase hbel
      have hs5 : W5.heap.size = B + 4 + n + 1 := hbase.size
      have M0 := mod2_start W5 _ n P hs5
      rw [hW5] at M0
      have HM0 : Hid _ := M0
      have HBase : Hid _ := hbase
      have HBel : Hid _ := hbel
      have HW5 : Hid _ := hW5
      clear hL M0 hbase hbel hW5 hs5
      go_wp2_with fail
      go_loopw [18] (fun v wr => ∃ k : Nat, v = .int .i64 k ∧ k ≤ n ∧ Mod2 W5 (B + 4 + n + 1) n P k wr) (fun v _ => n - (intOf v).toNat)
      case atStart => rw [HW5.out]; exact ⟨0, rfl, Nat.zero_le _, HM0.out⟩
      case round =>
        clear HM0 vn fn hsz bb HW5 m24 m23 m22 m47 m25
        obtain ⟨k, rfl, hk, hM⟩ := hrel
        have hbw : Below B w wr := HBel.out.trans (hM.bel.mono (by omega))
        by_cases hlt : k < n
        · have e0 := HA0.out (by omega)
          subst e0
          have c0 : wr.cell? ⟨b0, o0 + k, none⟩ = some (.int .i64 (P k)) := (hbw.cell (p := ⟨b0, o0 + k, none⟩) (hb0 k hlt)).trans (HC0.out k hlt)
          have v1 := hM.vals.cell (i := k) (by omega)
          have v2 := hM.ids.cell (i := k) (by omega)
          rw [if_neg (by omega)] at v1 v2
          have f1 := hM.vals.frozen k
          have f2 := hM.ids.frozen k
          have hM2 := mod2_step hM
          clear hM hbw
          go_wp2_with fail
          go_roundw
          case rel => exact ⟨k + 1, by go_num, hlt, hM2⟩
          case measure => simp [intOf]; omega
        · obtain rfl : n = k := by omega
          have v1 := hM.vals.cell (i := n) (by omega)
          have v2 := hM.ids.cell (i := n) (by omega)
          have v3 := hM.mv.cell (i := n) (by omega)
          rw [if_neg (by omega)] at v1 v2
          have f1 := hM.vals.frozen n
          have f2 := hM.ids.frozen n
          have f3 := hM.mv.frozen n
          have hM3 := mod3_start (O := O) hM
          have hok := Sift.start_ok n O
          obtain ⟨F, hF⟩ : ∃ F, Sift.up P n n (Sift.start n O) = F := ⟨_, rfl⟩
          have HF : Hid _ := hF
          have hokF : Sift.Ok (n + 1) O F := hF ▸ Sift.up_ok P n n _ (by omega) hok
          clear hM hbw hF
          go_wp2_with fail
          go_loopw [19] (fun v wr => ∃ (j f : Nat) (s : Sift.St), v = .int .i64 j ∧ j ≤ n ∧ j ≤ f ∧ Hid (Sift.up P f j s = F) ∧ Sift.Ok (n + 1) O s ∧ Mod3 W5 (B + 4 + n + 1) n P s wr) (fun v _ => (intOf v).toNat)
          case atStart => exact ⟨n, n, _, rfl, Nat.le_refl _, Nat.le_refl _, HF, hok, hM3⟩
          case round =>
            clear v1 v2 v3 f1 f2 f3 hM3 hok
            obtain ⟨j, f, s, rfl, hjn, hjf, hFs, hok', hM⟩ := hrel
            by_cases h0 : j = 0
            · subst h0
              have hsF := hFs.out
              rw [Sift.up_zero] at hsF
              have hsG := hsF.symm
              subst hsG
              clear hsF hFs hok'
              go_wp2_with fail
              obtain ⟨s1, s2, s3, s4, s5, s6, s7, s8, ⟨c00, s9⟩, s10⟩ := HBase.out.stands hM.bel
              have hsw := hM.size
              refine (push_any (B + 1 + 1) (B + 1) n (B + 4) P O F c00 _ (by omega) (by omega) (by omega) (by omega) s3 s4 s2 s7 s8 s9 s10 HF).mono ?_
              rintro e w6 ⟨rfl, g, c, hh, hg, hfr, hbl⟩
              have hfin := fin_of HBase.out hM hh hfr
              have hvar := hfin.var
              have HBel6 : Hid (Below B w w6) := (HBel.out.trans (hM.bel.mono (by omega))).trans (hbl B (by omega))
              clear s1 s2 s3 s4 s5 s6 s7 s8 s9 s10 hsw hh hg hfr hbl hM
              have hneq := neq_line_same
              go_wp2_with fail
              go_loopw [23] (fun v wz => ∃ (p m : Nat), v = .int .i64 p ∧ p ≤ n + 1 ∧ wz = w6.drewN m) (fun v _ => n + 1 - (intOf v).toNat)
              case atStart => exact ⟨0, 0, rfl, Nat.zero_le _, rfl⟩
              case round =>
                obtain ⟨p, m, rfl, hp, rfl⟩ := hrel
                by_cases hlt : p < n + 1
                · have x1 := hfin.ids p hlt
                  have x2 := hfin.ptr p hlt
                  have lid := hokF.lt p hlt
                  have hat := hokF.at_ p hlt
                  generalize F.ids p = id at *
                  have x3 := hfin.lines id lid
                  have x4 := hfin.seq id lid
                  have x5 := hfin.key id lid
                  have x6 := hfin.orig id lid
                  have x7 := hfin.mv id lid
                  have x8 := hfin.idx id lid
                  generalize F.C id = ix at *
                  generalize F.mv id = bm at *
                  have hpI : (p : Int) ≤ (n : Int) := by omega
                  by_cases hidn : id < n
                  · have e0 := HA0.out (by omega)
                    subst e0
                    have c0 : w6.cell? ⟨b0, o0 + id, none⟩ = some (.int .i64 (P id)) := (HBel6.out.cell (p := ⟨b0, o0 + id, none⟩) (hb0 id hidn)).trans (HC0.out id hidn)
                    have hidI : (id : Int) < (n : Int) := by omega
                    cases bm
                    · have hix : ix = O id := by simpa using hat
                      subst hix
                      clear hat
                      go_wp2_with fail
                      go_quiet (fail)
                      go_wp2_with fail
                      go_roundw
                      case rel => exact ⟨p + 1, _, by go_num, by omega, rfl⟩
                      case measure => simp [intOf]; omega
                    · have hix : ix = (p : Int) := by simpa using hat
                      subst hix
                      clear hat
                      go_wp2_with fail
                      go_quiet (fail)
                      go_wp2_with fail
                      go_roundw
                      case rel => exact ⟨p + 1, _, by go_num, by omega, rfl⟩
                      case measure => simp [intOf]; omega
                  · obtain rfl : id = n := by omega
                    cases bm
                    · have hix : ix = O id := by simpa using hat
                      subst hix
                      clear hat
                      go_wp2_with fail
                      go_roundw
                      case rel => exact ⟨p + 1, _, by go_num, by omega, rfl⟩
                      case measure => simp [intOf]; omega
                    · have hix : ix = (p : Int) := by simpa using hat
                      subst hix
                      clear hat
                      go_wp2_with fail
                      go_roundw
                      case rel => exact ⟨p + 1, _, by go_num, by omega, rfl⟩
                      case measure => simp [intOf]; omega
                · have hpI : (n : Int) < (p : Int) := by omega
                  go_wp2_with fail
                  go_ret
                  exact ⟨rfl, below_drewN (HB.out ▸ HBel6.out) m⟩
            · have hpj : (j - 1) / 2 < j := by omega
              generalize hp : (j - 1) / 2 = p at *
              have HP : Hid ((j - 1) / 2 = p) := hp
              have hpI : ((j : Int) - 1) / 2 = (p : Int) := by omega
              clear hp
              have lj := hok'.lt j (by omega)
              have lp := hok'.lt p (by omega)
              have vj := hM.vals.cell (i := j) (by omega)
              have vp := hM.vals.cell (i := p) (by omega)
              have ij := hM.ids.cell (i := j) (by omega)
              have ip := hM.ids.cell (i := p) (by omega)
              have hj0 : (0 : Int) < (j : Int) := by omega
              have hj1 : (j : Int) < ((n + 1 : Nat) : Int) := by omega
              have hp1 : (p : Int) < ((n + 1 : Nat) : Int) := by omega
              by_cases hl : P (s.ids j) < P (s.ids p)
              · have hd : decide (P (s.ids j) < P (s.ids p)) = true := by simpa using hl
                have hok2 := Sift.step_ok (j := j) (p := p) hok' (by omega) (by omega)
                obtain ⟨f', hpf, hup⟩ := Sift.up_go P f j s (by omega) hjf (by rw [HP.out]; exact hl)
                rw [HP.out] at hup hpf
                have HU : Hid (Sift.up P f' p (Sift.step s j p) = F) := hup.symm.trans hFs.out
                have Hok2 : Hid _ := hok2
                have ljI : ((s.ids j : Nat) : Int) < ((n + 1 : Nat) : Int) := by omega
                have lpI : ((s.ids p : Nat) : Int) < ((n + 1 : Nat) : Int) := by omega
                have ne1 : ¬ s.ids p = s.ids j := fun e => by have := hok'.inj p j (by omega) (by omega) e; omega
                have ne2 : ¬ s.ids j = s.ids p := fun e => ne1 e.symm
                clear hup hFs hok' hok2
                go_wp2_with fail
                go_quiet (fail)
                have hMq := hM.drewN nq
                clear hM vj vp ij ip
                generalize wr.drewN nq = wq at *
                have vj := hMq.vals.cell (i := j) (by omega)
                have vp := hMq.vals.cell (i := p) (by omega)
                have ij := hMq.ids.cell (i := j) (by omega)
                have ip := hMq.ids.cell (i := p) (by omega)
                have fj := hMq.vals.frozen j
                have fp := hMq.vals.frozen p
                have gj := hMq.ids.frozen j
                have gp := hMq.ids.frozen p
                go_upto_region 40 with fail
                obtain ⟨W4, hW4⟩ : ∃ W4, (((wq.setCell ⟨B + 4 + n + 1, j, none⟩ (.int .i64 (P (s.ids p)))).setCell ⟨B + 4 + n + 1, p, none⟩ (.int .i64 (P (s.ids j)))).setCell ⟨B + 4 + n + 1 + 1, j, none⟩ (.int .i64 (s.ids p))).setCell ⟨B + 4 + n + 1 + 1, p, none⟩ (.int .i64 (s.ids j)) = W4 := ⟨_, rfl⟩
                have hM2 := mod3_step (j := j) (p := p) hMq (by omega)
                have hids := ((((hMq.ids.setOther (a := ⟨B + 4 + n + 1, j, none⟩) (by show B + 4 + n + 1 + 1 ≠ B + 4 + n + 1; omega) (.int .i64 (P (s.ids p)))).setOther (a := ⟨B + 4 + n + 1, p, none⟩) (by show B + 4 + n + 1 + 1 ≠ B + 4 + n + 1; omega) (.int .i64 (P (s.ids j)))).set j (.int .i64 (s.ids p))).set p (.int .i64 (s.ids j)))
                have hmv := ((((hMq.mv.setOther (a := ⟨B + 4 + n + 1, j, none⟩) (by show B + 4 + n + 1 + 1 + 1 ≠ B + 4 + n + 1; omega) (.int .i64 (P (s.ids p)))).setOther (a := ⟨B + 4 + n + 1, p, none⟩) (by show B + 4 + n + 1 + 1 + 1 ≠ B + 4 + n + 1; omega) (.int .i64 (P (s.ids j)))).setOther (a := ⟨B + 4 + n + 1 + 1, j, none⟩) (by show B + 4 + n + 1 + 1 + 1 ≠ B + 4 + n + 1 + 1; omega) (.int .i64 (s.ids p))).setOther (a := ⟨B + 4 + n + 1 + 1, p, none⟩) (by show B + 4 + n + 1 + 1 + 1 ≠ B + 4 + n + 1 + 1; omega) (.int .i64 (s.ids j)))
                rw [hW4] at hM2 hids hmv ⊢
                have q1 := hids.cell (i := j) (by omega)
                have q2 := hids.cell (i := p) (by omega)
                rw [if_neg (by omega), if_pos rfl] at q1
                rw [if_pos rfl] at q2
                have mj := hmv.cell (i := s.ids j) lj
                have mp := hmv.cell (i := s.ids p) lp
                have oj := hmv.frozen (s.ids j)
                have op := hmv.frozen (s.ids p)
                have HM2 : Hid _ := hM2
                clear hM2 hids hmv hW4 vj vp ij ip fj fp gj gp hMq hd hl
                go_wp2_with fail
                go_roundw
                case rel => exact ⟨p, f', Sift.step s j p, by rw [hpI], by omega, hpf, HU, Hok2.out, HM2.out⟩
                case measure => simp [intOf]; omega
              · have hd : decide (P (s.ids j) < P (s.ids p)) = false := by simpa using hl
                have hsF := hFs.out
                rw [Sift.up_stop P f j s (by rw [HP.out]; exact hl)] at hsF
                have hsG := hsF.symm
                subst hsG
                go_wp2_with fail
                go_quiet (fail)
                have hMq := hM.drewN nq
                clear hsF hM hFs hok' vj vp ij ip hd hl
                generalize wr.drewN nq = wq at *
                have hM := hMq
                clear hMq
                go_wp2_with fail
                obtain ⟨s1, s2, s3, s4, s5, s6, s7, s8, ⟨c00, s9⟩, s10⟩ := HBase.out.stands hM.bel
                have hsw := hM.size
                refine (push_any (B + 1 + 1) (B + 1) n (B + 4) P O F c00 _ (by omega) (by omega) (by omega) (by omega) s3 s4 s2 s7 s8 s9 s10 HF).mono ?_
                rintro e w6 ⟨rfl, g, c, hh, hg, hfr, hbl⟩
                have hfin := fin_of HBase.out hM hh hfr
                have hvar := hfin.var
                have HBel6 : Hid (Below B w w6) := (HBel.out.trans (hM.bel.mono (by omega))).trans (hbl B (by omega))
                clear s1 s2 s3 s4 s5 s6 s7 s8 s9 s10 hsw hh hg hfr hbl hM
                have hneq := neq_line_same
                go_wp2_with fail
                go_loopw [23] (fun v wz => ∃ (p m : Nat), v = .int .i64 p ∧ p ≤ n + 1 ∧ wz = w6.drewN m) (fun v _ => n + 1 - (intOf v).toNat)
                case atStart => exact ⟨0, 0, rfl, Nat.zero_le _, rfl⟩
                case round =>
                  obtain ⟨p, m, rfl, hp, rfl⟩ := hrel
                  by_cases hlt : p < n + 1
                  · have x1 := hfin.ids p hlt
                    have x2 := hfin.ptr p hlt
                    have lid := hokF.lt p hlt
                    have hat := hokF.at_ p hlt
                    generalize F.ids p = id at *
                    have x3 := hfin.lines id lid
                    have x4 := hfin.seq id lid
                    have x5 := hfin.key id lid
                    have x6 := hfin.orig id lid
                    have x7 := hfin.mv id lid
                    have x8 := hfin.idx id lid
                    generalize F.C id = ix at *
                    generalize F.mv id = bm at *
                    have hpI : (p : Int) ≤ (n : Int) := by omega
                    by_cases hidn : id < n
                    · have e0 := HA0.out (by omega)
                      subst e0
                      have c0 : w6.cell? ⟨b0, o0 + id, none⟩ = some (.int .i64 (P id)) := (HBel6.out.cell (p := ⟨b0, o0 + id, none⟩) (hb0 id hidn)).trans (HC0.out id hidn)
                      have hidI : (id : Int) < (n : Int) := by omega
                      cases bm
                      · have hix : ix = O id := by simpa using hat
                        subst hix
                        clear hat
                        go_wp2_with fail
                        go_quiet (fail)
                        go_wp2_with fail
                        go_roundw
                        case rel => exact ⟨p + 1, _, by go_num, by omega, rfl⟩
                        case measure => simp [intOf]; omega
                      · have hix : ix = (p : Int) := by simpa using hat
                        subst hix
                        clear hat
                        go_wp2_with fail
                        go_quiet (fail)
                        go_wp2_with fail
                        go_roundw
                        case rel => exact ⟨p + 1, _, by go_num, by omega, rfl⟩
                        case measure => simp [intOf]; omega
                    · obtain rfl : id = n := by omega
                      cases bm
                      · have hix : ix = O id := by simpa using hat
                        subst hix
                        clear hat
                        go_wp2_with fail
                        go_roundw
                        case rel => exact ⟨p + 1, _, by go_num, by omega, rfl⟩
                        case measure => simp [intOf]; omega
                      · have hix : ix = (p : Int) := by simpa using hat
                        subst hix
                        clear hat
                        go_wp2_with fail
                        go_roundw
                        case rel => exact ⟨p + 1, _, by go_num, by omega, rfl⟩
                        case measure => simp [intOf]; omega
                  · have hpI : (n : Int) < (p : Int) := by omega
                    go_wp2_with fail
                    go_ret
                    exact ⟨rfl, below_drewN (HB.out ▸ HBel6.out) m⟩
end Go.Proofs.Ybulkdmim
