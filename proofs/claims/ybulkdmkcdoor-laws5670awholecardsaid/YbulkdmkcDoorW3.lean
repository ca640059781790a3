import Derived.Test.YbulkdmkcDoorW2
namespace Go.Proofs.YbulkdmkcDoor
open Go Go.RowKit Go.MuLone

set_option maxRecDepth 100000 in
set_option maxHeartbeats 4000000 in
theorem whole_walk (ao bo : Option Addr) (c d : Nat) (l1 l2 : List UInt8) (w : World) (h1 : Bs w ao l1) (h2 : Bs w bo l2) (hnil : bo = none → l2 = [] ∧ d = 0) (hm1 : l1.length ≤ 281474976710656) (hm2 : l2.length ≤ 281474976710656) :
    Calls Ybad.prog 3 #[.slice ao l1.length c, .slice bo l2.length d] w fun e w' => e = .returned (.bool true) ∧ Below w.heap.size w w' := by
  by_cases hbig : 1048576 < l1.length + l2.length
  · clear h1 h2 hnil
    have hbI : (1048576 : Int) < (l1.length : Int) + (l2.length : Int) := by omega
    go_enter Ybad.func3, Ybad.ntmps3
    go_wp2_with fail
    go_ret
    exact ⟨rfl, Below.refl _ _⟩
  · have hbI : ¬ (1048576 : Int) < (l1.length : Int) + (l2.length : Int) := by omega
    obtain ⟨i5, hi5, hz0, hz1, hz2⟩ := info_parts info5
    obtain ⟨b1, o1, ha1, hc1⟩ := h1.at
    obtain ⟨b2, o2, ha2, hc2⟩ := h2.at
    have A1 : Hid (0 < l1.length → ao = some ⟨b1, o1, none⟩) := ha1
    have A2 : Hid (0 < l2.length → bo = some ⟨b2, o2, none⟩) := ha2
    have C1 : Hid (∀ k (hk : k < l1.length), w.cell? ⟨b1, o1 + k, none⟩ = some (.int .u8 (l1[k].toNat : Int))) := hc1
    have C2 : Hid (∀ k (hk : k < l2.length), w.cell? ⟨b2, o2 + k, none⟩ = some (.int .u8 (l2[k].toNat : Int))) := hc2
    have H1 : Hid (Bs w ao l1) := h1
    have H2 : Hid (Bs w bo l2) := h2
    have HN : Hid (bo = none → l2 = [] ∧ d = 0) := hnil
    have hl2 : l2.length ≤ 1048576 := by omega
    clear h1 h2 hnil ha1 ha2 hc1 hc2
    go_enter Ybad.func3, Ybad.ntmps3
    go_wp2_with fail
    refine (clone_any bo l2 d w H2.out hl2 HN.out).mono ?_
    rintro e W1 ⟨po, pc, rfl, _, hcl⟩
    have hsz1 : w.heap.size ≤ W1.heap.size := hcl.bel.size
    have HBW1 : Hid (Below w.heap.size w W1) := hcl.bel
    have HPC : Hid (Bs W1 po l2) := hcl.bs
    have HP1 : Hid (Bs W1 bo l2) := H2.out.below H2.out.block hcl.bel
    have hP0 : Bs W1 ao l1 := H1.out.below H1.out.block hcl.bel
    have R0 := wr_start W1 (fun _ => l1)
    have HBUF : Hid (Buf (W1.alloc (.cells #[.int .i32 0, .int .u32 0, .slice none 0 0, .int .i64 0, .int .i8 0] 37)) W1.heap.size 2 37 (Rl 0) [] none) := R0.buf
    have HS1 : Hid (1 ≤ l1.length → ∃ a : Addr, ao = some a ∧ a.block ≠ W1.heap.size ∧ some a.block ≠ none ∧ ∀ j v, (Lib.byteCells l1)[j]? = some v → (W1.alloc (.cells #[.int .i32 0, .int .u32 0, .slice none 0 0, .int .i64 0, .int .i8 0] 37)).cell? (a.add j) = some v) := fun hl => by
      have hne : l1 ≠ [] := fun e => by rw [e] at hl; simp at hl
      have hb := hP0.below (B := W1.heap.size) hP0.block R0.bel
      obtain ⟨a, ea, hca⟩ := hb hne
      have := hP0.block a ea hne
      exact ⟨a, ea, by omega, by simp, hca⟩
    have HAL : Hid (Below W1.heap.size W1 (W1.alloc (.cells #[.int .i32 0, .int .u32 0, .slice none 0 0, .int .i64 0, .int .i8 0] 37))) := R0.bel
    have hlm1 : ([] : List Value).length + l1.length ≤ 140737488355328 := by simp; omega
    clear R0 hcl hP0
    go_wp2_with fail
    refine (write_all W1.heap.size 2 37 (Rl 0) [] (Lib.byteCells l1) none ao l1.length c _ HBUF.out (by simp) (byteCells_len _) HS1.out (Lib.byteCells_one _) hlm1).mono ?_
    rintro e W3 ⟨rfl, own, k1, k2, k3⟩
    rw [List.nil_append] at k1
    have HBU3 : Hid (Buf W3 W1.heap.size 2 37 (Rl 0) (Lib.byteCells l1) own) := k1
    have hsz3 : W1.heap.size + 1 ≤ W3.heap.size := by have := k3.size; rw [Deep.nblk_alloc] at this; exact this
    have HB13 : Hid (Below W1.heap.size W1 W3) := HAL.out.trans (k3.below (by rw [Deep.nblk_alloc]; omega) (Nat.le_refl _) (fun g e => by cases e))
    have HOWN : Hid (∀ g, own = some g → W1.heap.size + 1 ≤ g ∧ g < W3.heap.size) := fun g e => by
      refine ⟨?_, k1.own_lt g e⟩
      rcases k2 with rfl | ⟨N, e2, hN⟩
      · cases e
      · rw [e2] at e
        injection e with e
        rw [Deep.nblk_alloc] at hN
        omega
    have mk := run_make_room (P := Ybad.prog) 22 5 _ _ Ybad.underlying22 info5 rfl .i64 .i64 (l1.length + l2.length) (by omega) (by omega) W3
    have E0 := ex_start W3 (l1.length + l2.length) (by unfold maxLen; omega)
    simp only [Int.natCast_add] at mk
    clear k1 k2 k3 HBUF HS1 HAL hlm1
    generalize hB1 : W1.heap.size = B1 at *
    have HB1 : Hid (W1.heap.size = B1) := hB1
    generalize hBE : W3.heap.size = BE at *
    have HBE : Hid (W3.heap.size = BE) := hBE
    clear hB1 hBE
    go_wp2_with fail
    go_loopw [7, 8] (fun u v wr => ∃ k : Nat, v = .int .i64 k ∧ k ≤ l1.length ∧ Ex W3 BE (l1.take k) u wr) (fun _ v _ => l1.length - (intOf v).toNat)
    case atStart => exact ⟨0, rfl, Nat.zero_le _, E0⟩
    case round =>
      clear E0 mk
      obtain ⟨k, rfl, hk, hE⟩ := hrel
      by_cases hlt : k < l1.length
      · have e0 := A1.out (by omega)
        subst e0
        have hbw : Below w.heap.size w wr := HBW1.out.trans ((HB13.out.mono hsz1).trans (hE.bel.mono (by omega)))
        have c0 : wr.cell? ⟨b1, o1 + k, none⟩ = some (.int .u8 (l1[k].toNat : Int)) := (hbw.cell (p := ⟨b1, o1 + k, none⟩) (World.block_lt_of_cell? w _ (C1.out k hlt))).trans (C1.out k hlt)
        have hltI : (k : Int) < (l1.length : Int) := by omega
        have hbr : wr.heap.size ≥ BE := hE.size
        have HE : Hid (Ex W3 BE (l1.take k) u7 wr) := hE
        have HLK : Hid ((l1.take k).length = k) := by show _ = _; simp; omega
        have hown : Hid (wr.ownsRow BE 5 1 u7 k (Lib.byteCells (l1.take k))) := by have := hE.own; rw [HLK.out] at this; exact this
        have HX : Hid (l1.take (k + 1) = l1.take k ++ [l1[k]]) := take_next l1 k hlt
        clear hE hbw
        generalize l1[k] = x at *
        go_wp2_with (at_builtin; refine wpList_append_own _ rfl (.tmp 39) (.tmp 44) 22 rfl BE 5 i5 (.int .u8 0) 1 1 Ybad.underlying22 hi5 hz0 hz1 hz2 rfl (by decide) u7 k (Lib.byteCells (l1.take k)) rfl (hown.out.alloc _) ⟨wr.heap.size, 0, none⟩ 1 1 [.int .u8 (x.toNat : Int)] rfl (by simp) (alloc1_src _ _ _) (one_byte _) (by unfold maxLen; omega) (by omega) (by rw [Deep.nblk_alloc]; omega) ?_)
        intro v1 w1 own1 grow1 _
        have HE2 : Hid (Ex W3 BE (l1.take (k + 1)) v1 w1) := by show Ex _ _ _ _ _; rw [HX.out]; exact ex_step HLK.out HE.out own1 grow1
        clear own1 grow1 HE hown HX c0
        go_wp2_with fail
        go_roundw
        case rel => exact ⟨k + 1, by go_num, hlt, HE2.out⟩
        case measure => simp [intOf]; omega
      · have hkk : k = l1.length := by omega
        have hE0 : Ex W3 BE (l1 ++ l2.take 0) u7 wr := by
          have : l1 ++ l2.take 0 = l1.take k := by rw [hkk]; simp
          rw [this]; exact hE
        have HE0 : Hid (Ex W3 BE (l1 ++ l2.take 0) u7 wr) := hE0
        subst hkk
        clear hE hE0 hlt
        go_wp2_with fail
        go_loopw [7, 9] (fun u v wr => ∃ k : Nat, v = .int .i64 k ∧ k ≤ l2.length ∧ Ex W3 BE (l1 ++ l2.take k) u wr) (fun _ v _ => l2.length - (intOf v).toNat)
        case atStart => exact ⟨0, rfl, Nat.zero_le _, HE0.out⟩
        case round =>
          clear HE0
          obtain ⟨k, rfl, hk, hE⟩ := hrel
          by_cases hlt : k < l2.length
          · have e0 := A2.out (by omega)
            subst e0
            have hbw : Below w.heap.size w wr := HBW1.out.trans ((HB13.out.mono hsz1).trans (hE.bel.mono (by omega)))
            have c0 : wr.cell? ⟨b2, o2 + k, none⟩ = some (.int .u8 (l2[k].toNat : Int)) := (hbw.cell (p := ⟨b2, o2 + k, none⟩) (World.block_lt_of_cell? w _ (C2.out k hlt))).trans (C2.out k hlt)
            have hltI : (k : Int) < (l2.length : Int) := by omega
            have hbr : wr.heap.size ≥ BE := hE.size
            have HE : Hid (Ex W3 BE (l1 ++ l2.take k) u7 wr) := hE
            have HLK : Hid ((l1 ++ l2.take k).length = l1.length + k) := by show _ = _; simp; omega
            have hown : Hid (wr.ownsRow BE 5 1 u7 (l1.length + k) (Lib.byteCells (l1 ++ l2.take k))) := by have := hE.own; rw [HLK.out] at this; exact this
            have HX : Hid (l1 ++ l2.take (k + 1) = (l1 ++ l2.take k) ++ [l2[k]]) := by show _ = _; rw [take_next l2 k hlt, List.append_assoc]
            clear hE hbw
            generalize l2[k] = x at *
            go_wp2_with (at_builtin; refine wpList_append_own _ rfl (.tmp 52) (.tmp 57) 22 rfl BE 5 i5 (.int .u8 0) 1 1 Ybad.underlying22 hi5 hz0 hz1 hz2 rfl (by decide) u7 (l1.length + k) (Lib.byteCells (l1 ++ l2.take k)) rfl (hown.out.alloc _) ⟨wr.heap.size, 0, none⟩ 1 1 [.int .u8 (x.toNat : Int)] rfl (by simp) (alloc1_src _ _ _) (one_byte _) (by unfold maxLen; omega) (by omega) (by rw [Deep.nblk_alloc]; omega) ?_)
            intro v1 w1 own1 grow1 _
            have HE2 : Hid (Ex W3 BE (l1 ++ l2.take (k + 1)) v1 w1) := by show Ex _ _ _ _ _; rw [HX.out]; exact ex_step HLK.out HE.out own1 grow1
            clear own1 grow1 HE hown HX c0
            go_wp2_with fail
            go_roundw
            case rel => exact ⟨k + 1, by go_num, hlt, HE2.out⟩
            case measure => simp [intOf]; omega
          · have hkk : k = l2.length := by omega
            subst hkk
            rw [List.take_length] at hE
            obtain ⟨W4, rfl⟩ : ∃ W4, W4 = wr := ⟨_, rfl⟩
            obtain ⟨eo, ec, rfl, heb, hek⟩ := own_bs2 hE.own
            have HEB : Hid (Bs W4 eo (l1 ++ l2)) := heb
            have HEK : Hid (∀ a, eo = some a → BE ≤ a.block) := hek
            have HB34 : Hid (Below BE W3 W4) := hE.bel
            have HB14 : Hid (Below B1 W1 W4) := HB13.out.trans (hE.bel.mono (by omega))
            have HBU4 : Hid (Buf W4 B1 2 37 (Rl 0) (Lib.byteCells l1) own) := HBU3.out.below hE.bel (by omega) (fun g e => (HOWN.out g e).2)
            have HS2 : Hid (1 ≤ l2.length → ∃ a : Addr, bo = some a ∧ a.block ≠ B1 ∧ some a.block ≠ own ∧ ∀ j v, (Lib.byteCells l2)[j]? = some v → W4.cell? (a.add j) = some v) := fun hl => by
              have hne : l2 ≠ [] := fun e => by rw [e] at hl; simp at hl
              have hblk : ∀ a, bo = some a → l2 ≠ [] → a.block < B1 := fun a ea hn => HB1.out ▸ HP1.out.block a ea hn
              obtain ⟨a, ea, hca⟩ := HP1.out.below hblk HB14.out hne
              have := hblk a ea hne
              exact ⟨a, ea, by omega, fun e => by have := (HOWN.out _ e.symm).1; omega, hca⟩
            have hlm2 : (Lib.byteCells l1).length + l2.length ≤ 140737488355328 := by rw [byteCells_len]; omega
            have hsz4 : BE ≤ W4.heap.size := hE.size
            have hll : (l1 ++ l2).length = l1.length + l2.length := List.length_append
            clear hE heb hek HBU3 hlt
            go_wp2_with fail
            refine (sync_write B1 (Lib.byteCells l1) (Lib.byteCells l2) own bo l2.length d W4 HBU4.out (Lib.byteCells_one _) (byteCells_len _) HS2.out (Lib.byteCells_one _) hlm2).mono ?_
            rintro e W5 ⟨rfl, own', k1, k2, k3⟩
            rw [← byteCells_append] at k1
            have HF5 : Hid (Fin W1 B1 (l1 ++ l2) own' W5) := ⟨HB14.out.trans (k3.below (by omega) (Nat.le_refl _) (fun g e => by have := (HOWN.out g e).1; omega)), k1⟩
            have HEB5 : Hid (Bs W5 eo (l1 ++ l2)) := HEB.out.fr k3 (fun a ea _ => ⟨by have := HEK.out a ea; omega, fun e => by have h1 := HEK.out a ea; have h2 := (HOWN.out _ e.symm).2; omega⟩)
            clear k1 k2 k3 HBU4 HS2 hlm2 HEB HEK HOWN
            go_wp2_with fail
            refine (bytes_any B1 2 37 (Rl 0) (l1 ++ l2) own' W5 HF5.out.buf).mono ?_
            rintro e w' ⟨xo, xc, rfl, hxb, q1, rfl⟩
            have HXB : Hid (Bs (W5.drewN q1) xo (l1 ++ l2)) := Bs.drew' hxb q1
            have HEB6 : Hid (Bs (W5.drewN q1) eo (l1 ++ l2)) := Bs.drew' HEB5.out q1
            have HF6 : Hid (Fin W1 B1 (l1 ++ l2) own' (W5.drewN q1)) := HF5.out.drewN q1
            clear hxb HEB5 HF5
            generalize W5.drewN q1 = W6 at *
            go_wp2_with fail
            have hq := equal_same xo eo (l1 ++ l2) xc ec W6 HXB.out HEB6.out
            rw [hll] at hq
            refine hq.mono ?_
            clear hq
            rintro e w' ⟨rfl, hw⟩
            rw [hw]
            clear hw w' HXB HEB6
            go_wp2_with fail
            refine (Ybad.Buffer_Len_at 37 (Rl 0) 0 B1 2 (Lib.byteCells (l1 ++ l2)) W6 HF6.out.buf.isBuffer).mono ?_
            rintro e w' ⟨rfl, q2, rfl⟩
            rw [byteCells_len]
            have hF7 : Fin W1 B1 (l1 ++ l2) own' (W6.drewN q2) := HF6.out.drewN q2
            generalize W6.drewN q2 = W7 at *
            obtain ⟨c7, f7⟩ := buf_state hF7.buf
            have HF8 : Hid (Below B1 W1 ((W7.setCell ⟨B1, 0, none⟩ (.int .i32 1)).setCell ⟨B1, 0, none⟩ (.int .i32 0))) := (hF7.bel.setCell (p := ⟨B1, 0, none⟩) (Nat.le_refl _) _).setCell (p := ⟨B1, 0, none⟩) (Nat.le_refl _) _
            obtain ⟨c8, f8⟩ := buf_state (buf_lock 1 hF7.buf)
            have C8 : Hid ((W7.setCell ⟨B1, 0, none⟩ (.int .i32 1)).cell? ⟨B1, 0, none⟩ = some (.int .i32 1)) := c8
            have F8 : Hid ((W7.setCell ⟨B1, 0, none⟩ (.int .i32 1)).frozen? ⟨B1, 0, none⟩ = false) := f8
            clear hF7 HF6 c8 f8
            go_wp2_with fail
            refine (try_free ⟨B1, 0, none⟩ W7 c7 f7).mono ?_
            rintro e w' ⟨rfl, rfl⟩
            go_wp2_with fail
            refine (unlock_held muLib ⟨B1, 0, none⟩ _ C8.out F8.out).mono ?_
            rintro e w' ⟨rfl, rfl⟩
            have HQ1 : Hid (Bs ((W7.setCell ⟨B1, 0, none⟩ (.int .i32 1)).setCell ⟨B1, 0, none⟩ (.int .i32 0)) bo l2) := HP1.out.below (fun a ea hn => HB1.out ▸ HP1.out.block a ea hn) HF8.out
            have HQ2 : Hid (Bs ((W7.setCell ⟨B1, 0, none⟩ (.int .i32 1)).setCell ⟨B1, 0, none⟩ (.int .i32 0)) po l2) := HPC.out.below (fun a ea hn => HB1.out ▸ HPC.out.block a ea hn) HF8.out
            clear C8 F8 c7 f7
            generalize (W7.setCell ⟨B1, 0, none⟩ (.int .i32 1)).setCell ⟨B1, 0, none⟩ (.int .i32 0) = W8 at *
            go_wp2_with fail
            refine (equal_same bo po l2 d pc W8 HQ1.out HQ2.out).mono ?_
            rintro e w' ⟨rfl, hw⟩
            rw [hw]
            clear hw w'
            go_wp2_with fail
            go_ret
            exact ⟨rfl, HBW1.out.trans (HF8.out.mono hsz1)⟩
end Go.Proofs.YbulkdmkcDoor
