import Derived.Test.YbulkdmkcDoorC11
namespace Go.Proofs.YbulkdmkcDoor
open Go Go.RowKit Go.MuLone

theorem buf_drew {w : World} {b q T : Nat} {R : Nat → Option Value} {bs : List Value} {own : Option Nat} (h : Buf w b q T R bs own) : Buf w.drew b q T R bs own := h
theorem wr_drew {W0 W : World} {b k : Nat} {D : Nat → List UInt8} {own : Option Nat} (h : Wr W0 b D k own W) : Wr W0 b D k own W.drew :=
  ⟨h.bel.trans ⟨rfl, rfl, rfl, Nat.le_refl _, fun _ _ => rfl⟩, buf_drew h.buf, h.old, h.size⟩
theorem Bs.drewN {w : World} {ao : Option Addr} {l : List UInt8} (h : Bs w ao l) (m : Nat) : Bs (w.drewN m) ao l := h

set_option maxRecDepth 100000 in
set_option maxHeartbeats 4000000 in
theorem script_walk (ao : Option Addr) (n c b0 o0 : Nat) (A : Nat → Option Addr) (C : Nat → Nat) (D : Nat → List UInt8) (w : World) (hn : n ≤ maxLen) (ha : 0 < n → ao = some ⟨b0, o0, none⟩)
    (hin : Ins w.heap.size b0 o0 n A C D w) (hlen : ∀ i, i < n → (D i).length ≤ 281474976710656) :
    Calls Ybad.prog 4 #[.slice ao n c] w fun e w' => e = .returned (.bool true) ∧ Below w.heap.size w w' := by
  unfold maxLen at hn
  obtain ⟨i5, hi5, hz0, hz1, hz2⟩ := info_parts info5
  have HA : Hid (0 < n → ao = some ⟨b0, o0, none⟩) := ha
  have HIN : Hid (Ins w.heap.size b0 o0 n A C D w) := hin
  have HLEN : Hid (∀ i, i < n → (D i).length ≤ 281474976710656) := hlen
  clear ha hin hlen
  go_enter Ybad.func4, Ybad.ntmps4
  go_wp2_with fail
  generalize hB : w.heap.size = B at *
  have HB : Hid (w.heap.size = B) := hB
  clear hB
  go_loopw [3, 4] (fun v u wr => ∃ k : Nat, u = .int .i64 k ∧ k ≤ n ∧ k ≤ 4097 ∧ v = .int .i64 ((cat D k).length : Nat) ∧ (cat D k).length ≤ 1048576 ∧ wr = w) (fun _ u _ => n - (intOf u).toNat)
  case atStart => exact ⟨0, rfl, Nat.zero_le _, by omega, rfl, by simp [cat], rfl⟩
  case round =>
    obtain ⟨k, rfl, hk, hk2, rfl, htot, rfl⟩ := hrel
    by_cases hlt : k < n
    · have e0 := HA.out (by omega)
      subst e0
      have c0 := HIN.out.cell k hlt
      have hl := HLEN.out k hlt
      have hcl := cat_len D k
      generalize (cat D k).length = t at *
      generalize (D k).length = d at *
      have hltI : (k : Int) < (n : Int) := by omega
      by_cases hbig : 1048576 < t + d
      · have hbI : (1048576 : Int) < (t : Int) + (d : Int) := by omega
        go_wp2_with fail
        go_ret
        exact ⟨rfl, Below.refl _ _⟩
      · by_cases h4 : 4096 < k
        · have hbI : ¬ (1048576 : Int) < (t : Int) + (d : Int) := by omega
          have h4I : (4096 : Int) < (k : Int) := by omega
          go_wp2_with fail
          go_ret
          exact ⟨rfl, Below.refl _ _⟩
        · have hbI : ¬ (1048576 : Int) < (t : Int) + (d : Int) := by omega
          have h4I : ¬ (4096 : Int) < (k : Int) := by omega
          go_wp2_with fail
          go_roundw
          case rel => exact ⟨k + 1, by go_num, hlt, by omega, by rw [hcl]; simp, by omega, trivial⟩
          case measure => simp [intOf]; omega
    · obtain rfl : n = k := by omega
      obtain ⟨w, rfl⟩ : ∃ w, w = wr := ⟨_, rfl⟩
      have mk := run_make_row' (P := Ybad.prog) 46 22 _ _ Ybad.underlying46 info22 rfl .i64 .i64 n (by omega) (by omega) w
      have P0 := cps_start w n D
      rw [HB.out] at P0 mk
      clear hlt
      go_wp2_with fail
      go_loopw [6] (fun v wr => ∃ (k : Nat) (A' : Nat → Option Addr) (C' : Nat → Nat), v = .int .i64 k ∧ k ≤ n ∧ Cps w B n D k A' C' wr) (fun v _ => n - (intOf v).toNat)
      case atStart => exact ⟨0, _, _, rfl, Nat.zero_le _, P0⟩
      case round =>
        clear P0 mk
        obtain ⟨k, A', C', rfl, hk, hC⟩ := hrel
        by_cases hlt : k < n
        · have e0 := HA.out (by omega)
          subst e0
          have hins := HIN.out.below hC.bel
          have c0 := hins.cell k hlt
          have hbs : Hid (Bs wr (A k) (D k)) := hins.bs k hlt
          have hnl : Hid (A k = none → D k = [] ∧ C k = 0) := hins.nil k hlt
          have hdl : Hid ((D k).length ≤ 1048576) := Nat.le_trans (chunk_le D hlt) htot
          have hltI : (k : Int) < (n : Int) := by omega
          have HC : Hid (Cps w B n D k A' C' wr) := hC
          clear hC hins
          go_wp2_with fail
          refine (clone_any (A k) (D k) (C k) wr hbs.out hdl.out hnl.out).mono ?_
          rintro e w1 ⟨ao', c', rfl, hc0, hcl⟩
          have r1 := HC.out.row.of_block (hcl.bel.block B HC.out.row.lt)
          have v1 := r1.cell hlt
          have f1 := r1.frozen k
          rw [if_neg (by omega)] at v1
          have hS : Hid (∃ A'' C'', Cps w B n D (k + 1) A'' C'' (w1.setCell ⟨B, k, none⟩ (.slice ao' (D k).length c'))) := cps_step HC.out hc0 hcl
          clear r1 hcl HC hc0 c0
          go_wp2_with fail
          go_roundw
          case rel => obtain ⟨A2, C2, h2⟩ := hS.out; exact ⟨k + 1, A2, C2, by go_num, hlt, h2⟩
          case measure => simp [intOf]; omega
        · obtain rfl : n = k := by omega
          obtain ⟨W2, rfl⟩ : ∃ W2, W2 = wr := ⟨_, rfl⟩
          have HB2 : Hid (Below B w W2) := hC.bel
          have HI2 : Hid (Ins W2.heap.size B 0 n A' C' D W2) := cps_full hC
          have hBlt : B < W2.heap.size := hC.row.lt
          have T0 := wt_start W2 D
          clear hC hlt
          go_wp2_with fail
          generalize hB2 : W2.heap.size = B2 at *
          have HBB : Hid (W2.heap.size = B2) := hB2
          clear hB2
          go_loopw [7, 8] (fun u v wr => ∃ k : Nat, v = .int .i64 k ∧ k ≤ n ∧ Wt W2 B2 D k u wr) (fun _ v _ => n - (intOf v).toNat)
          case atStart => exact ⟨0, rfl, Nat.zero_le _, T0⟩
          case round =>
            clear T0
            obtain ⟨k, rfl, hk, hT⟩ := hrel
            have hsz : B2 ≤ wr.heap.size := HBB.out ▸ hT.bel.size
            by_cases hlt : k < n
            · have hins := HI2.out.below hT.bel
              have c0 := hins.cell k hlt
              rw [Nat.zero_add] at c0
              have hltI : (k : Int) < (n : Int) := by omega
              have hle := cat_le D (j := k + 1) hlt
              have hcl := cat_len D k
              have hk1 : (cat D k).length + (D k).length ≤ 1048576 := by omega
              have HT : Hid (Wt W2 B2 D k u7 wr) := hT
              have HBS : Hid (Bs wr (A' k) (D k)) := hins.bs k hlt
              have HNL : Hid (A' k = none → D k = [] ∧ C' k = 0) := hins.nil k hlt
              clear hT hins hle hcl
              cases hA : A' k with
              | none =>
                obtain ⟨hD, hC0⟩ := HNL.out hA
                rw [hA, hC0, hD] at c0
                rw [List.length_nil] at c0
                have HT2 : Hid (Wt W2 B2 D (k + 1) u7 wr) := wt_none HT.out hD
                have hown : Hid (wr.ownsRow B2 5 1 u7 (cat D k).length (Lib.byteCells (cat D k))) := HT.out.own
                clear HT hC0 HBS HNL
                go_wp2_with (at_builtin; refine wpList_append_own_none rfl (.tmp 56) (.tmp 60) 22 rfl B2 5 i5 1 Ybad.underlying22 hi5 u7 (cat D k).length (Lib.byteCells (cat D k)) rfl ?q0 rfl ?_)
                case q0 => exact hown.out
                all_goals skip
                go_roundw
                case rel => exact ⟨k + 1, by go_num, hlt, HT2.out⟩
                case measure => simp [intOf]; omega
              | some a =>
                rw [hA] at c0
                have hsrc : Hid (∀ j v, (Lib.byteCells (D k))[j]? = some v → wr.cell? (a.add j) = some v) := fun j v hj => by
                  have hne : D k ≠ [] := fun e => by rw [e] at hj; simp [Lib.byteCells] at hj
                  obtain ⟨a', ha, hc⟩ := HBS.out hne
                  rw [hA] at ha
                  injection ha with ha
                  subst ha
                  exact hc j v hj
                have hown : Hid (wr.ownsRow B2 5 1 u7 (cat D k).length (Lib.byteCells (cat D k))) := HT.out.own
                clear HBS HNL
                go_wp2_with (at_builtin; refine wpList_append_own _ rfl (.tmp 56) (.tmp 60) 22 rfl B2 5 i5 (.int .u8 0) 1 1 Ybad.underlying22 hi5 hz0 hz1 hz2 rfl (by decide) u7 (cat D k).length (Lib.byteCells (cat D k)) rfl ?q0 a (D k).length (C' k) (Lib.byteCells (D k)) rfl (by simp [Lib.byteCells]) ?q1 ?q2 (by simp [maxLen]; omega) (by omega) hsz ?_)
                case q0 => exact hown.out
                case q1 => exact hsrc.out
                case q2 => exact Lib.byteCells_one _
                intro v1 w1 own1 grow1 _
                have HT2 : Hid (Wt W2 B2 D (k + 1) v1 w1) := wt_step HT.out hsz own1 grow1
                clear own1 grow1 HT hown hsrc
                go_wp2_with fail
                go_roundw
                case rel => exact ⟨k + 1, by go_num, hlt, HT2.out⟩
                case measure => simp [intOf]; omega
            · obtain rfl : n = k := by omega
              obtain ⟨W3, rfl⟩ : ∃ W3, W3 = wr := ⟨_, rfl⟩
              have HI3 : Hid (Ins B2 B 0 n A' C' D W3) := HI2.out.below hT.bel
              have HB3 : Hid (Below B w W3) := HB2.out.trans (hT.bel.mono (by omega))
              obtain ⟨wo, wc, rfl, hwb, hwk⟩ := own_bs hT.own
              have HWB : Hid (Bs W3 wo (cat D n)) := hwb
              have HWK : Hid (∀ a, wo = some a → a.block < W3.heap.size) := hwk
              have R0 := wr_start W3 D
              clear hT hlt hwb hwk HI2 HB2
              go_wp2_with fail
              generalize hB3 : W3.heap.size = b at *
              have HBC : Hid (W3.heap.size = b) := hB3
              clear hB3
              go_loopw [10] (fun v wr => ∃ (k : Nat) (own : Option Nat), v = .int .i64 k ∧ k ≤ n ∧ Wr W3 b D k own wr) (fun v _ => n - (intOf v).toNat)
              case atStart => exact ⟨0, none, rfl, Nat.zero_le _, R0⟩
              case round =>
                clear R0
                obtain ⟨k, own, rfl, hk, hR⟩ := hrel
                have hb2 : B2 ≤ b := by have := hsz; omega
                have hbsz : b + 1 ≤ wr.heap.size := hR.size
                by_cases hlt : k < n
                · have e0 := HA.out (by omega)
                  subst e0
                  have hbw : Below B w wr := HB3.out.trans (hR.bel.mono (by omega))
                  have hins := HIN.out.below hbw
                  have c0 := hins.cell k hlt
                  have hltI : (k : Int) < (n : Int) := by omega
                  have hle := cat_le D (j := k + 1) hlt
                  have hcl := cat_len D k
                  have hk1 : (cat D k).length + (D k).length ≤ 1048576 := by omega
                  have HSRC : Hid (1 ≤ (D k).length → ∃ a : Addr, A k = some a ∧ a.block ≠ b ∧ some a.block ≠ own ∧ ∀ j v, (Lib.byteCells (D k))[j]? = some v → wr.cell? (a.add j) = some v) := fun h1 => by
                    have hne : D k ≠ [] := fun e => by rw [e] at h1; simp at h1
                    obtain ⟨a, ea, hca⟩ := hins.bs k hlt hne
                    have hab := hins.blk k hlt a ea hne
                    exact ⟨a, ea, by omega, fun e => by have := hR.old _ e.symm; omega, hca⟩
                  have HR : Hid (Wr W3 b D k own wr) := hR
                  have HLM : Hid ((Lib.byteCells (cat D k)).length + (D k).length ≤ 140737488355328) := by show _ ≤ _; rw [byteCells_len]; omega
                  clear hR hins hle hcl hbw
                  go_wp2_with fail
                  refine (sync_write b (Lib.byteCells (cat D k)) (Lib.byteCells (D k)) own (A k) (D k).length (C k) wr HR.out.buf (Lib.byteCells_one _) (byteCells_len _) HSRC.out (Lib.byteCells_one _) HLM.out).mono ?_
                  rintro e w1 ⟨rfl, own', k1, k2, k3⟩
                  have R2 : Wr W3 b D (k + 1) own' w1 := wr_step HR.out k1 k2 k3
                  have c1 := (HI3.out.below (R2.bel.mono hb2)).cell k hlt
                  rw [Nat.zero_add] at c1
                  have HR2 : Hid (Wr W3 b D (k + 1) own' w1) := R2
                  clear k1 k2 k3 HR R2 c0 HSRC HLM
                  go_wp2_with fail
                  go_roundw
                  case rel => exact ⟨k + 1, own', by go_num, hlt, HR2.out⟩
                  case measure => simp [intOf]; omega
                · obtain rfl : n = k := by omega
                  obtain ⟨W4, rfl⟩ : ∃ W4, W4 = wr := ⟨_, rfl⟩
                  have hR' : Wr W3 b D n own W4.drew := wr_drew hR
                  have HBF : Hid (Buf W4.drew b 2 37 (Rl 0) (Lib.byteCells (cat D n)) own) := hR'.buf
                  have HND : Hid (∀ m, Below b W3 (((W4.setCell ⟨b, 0, none⟩ (.int .i32 1)).drewN m).setCell ⟨b, 0, none⟩ (.int .i32 0))) := fun m => wr_end hR _ _
                  have cA := conv_bytes (HWB.out.below (B := b) (fun a ea _ => HWK.out a ea) hR'.bel) wc
                  have cB := fun m => conv_bytes (HWB.out.below (B := b) (fun a ea _ => HWK.out a ea) (HND.out m)) wc
                  clear hR hlt hR' HWB HWK
                  go_wp2_with fail
                  go_region_with (go_at_call 14; refine (sync_string b (cat D n) own _ ?_).mono ?_; exact HBF.out; rintro e w' ⟨rfl, m, rfl⟩)
                  all_goals
                    have hbm := HND.out (1 + m)
                    clear cA cB HBF HND
                    generalize (((W4.setCell ⟨b, 0, none⟩ (.int .i32 1)).drewN (1 + m)).setCell ⟨b, 0, none⟩ (.int .i32 0)) = W5 at *
                    have HW5 : Hid (Below B w W5) := HB3.out.trans (hbm.mono (by omega))
                    have HI4 : Hid (Ins B2 B 0 n A' C' D W5) := HI3.out.below (hbm.mono hb2)
                    have HI5 : Hid (Ins B b0 o0 n A C D W5) := HIN.out.below HW5.out
                    clear hbm HI3 HIN HB3 hbsz
                    go_wp2_with fail
                    go_loopw [13] (fun v wz => ∃ (p m : Nat), v = .int .i64 p ∧ p ≤ n ∧ wz = W5.drewN m) (fun v _ => n - (intOf v).toNat)
                    case atStart => exact ⟨0, 0, rfl, Nat.zero_le _, rfl⟩
                    case round =>
                      obtain ⟨p, q, rfl, hp, rfl⟩ := hrel
                      by_cases hlt : p < n
                      · have e0 := HA.out (by omega)
                        subst e0
                        have c0 : (W5.drewN q).cell? ⟨b0, o0 + p, none⟩ = some (.slice (A p) (D p).length (C p)) := HI5.out.cell p hlt
                        have c1 : (W5.drewN q).cell? ⟨B, 0 + p, none⟩ = some (.slice (A' p) (D p).length (C' p)) := HI4.out.cell p hlt
                        rw [Nat.zero_add] at c1
                        have hbs0 : Hid (Bs (W5.drewN q) (A p) (D p)) := HI5.out.bs p hlt
                        have hbs1 : Hid (Bs (W5.drewN q) (A' p) (D p)) := HI4.out.bs p hlt
                        have hltI : (p : Int) < (n : Int) := by omega
                        generalize hq : W5.drewN q = wq at *
                        have HQ : Hid (W5.drewN q = wq) := hq
                        clear hq
                        go_wp2_with fail
                        go_quiet (first | (go_at_call 9; exact Calls.quiet_of_same (equal_same (A p) (A' p) (D p) (C p) (C' p) _ (hbs0.out.drewN _) (hbs1.out.drewN _))))
                        go_wp2_with fail
                        go_roundw
                        case rel => exact ⟨p + 1, q + nq, by go_num, by omega, by rw [← HQ.out, World.drewN_drewN]⟩
                        case measure => simp [intOf]; omega
                      · obtain rfl : n = p := by omega
                        go_wp2_with fail
                        go_ret
                        exact ⟨rfl, below_drewN (HB.out ▸ HW5.out) q⟩
end Go.Proofs.YbulkdmkcDoor
