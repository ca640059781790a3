import Derived.Test.YbulkdmimA3
namespace Go.Proofs.Ybulkdmim
open Go.RowKit

theorem less_yes (bh n c i j bi bj : Nat) (ki kj : Int) (w : World) (hi : i < n) (hj : j < n)
    (hpi : w.cell? ⟨bh, i, none⟩ = some (.pointer (some ⟨bi, 0, none⟩))) (hpj : w.cell? ⟨bh, j, none⟩ = some (.pointer (some ⟨bj, 0, none⟩)))
    (hki : w.cell? ⟨bi, 26, none⟩ = some (.int .i64 ki)) (hkj : w.cell? ⟨bj, 26, none⟩ = some (.int .i64 kj)) (hl : ki < kj) :
    Calls Yba.prog 27 #[.slice (some ⟨bh, 0, none⟩) n c, .int .i64 i, .int .i64 j] w fun e w' => e = .returned (.bool true) ∧ ∃ m, w' = w.drewN m := by
  have h := less_any bh n c i j bi bj ki kj w hi hj hpi hpj hki hkj
  rwa [decide_eq_true hl] at h

theorem less_no (bh n c i j bi bj : Nat) (ki kj : Int) (w : World) (hi : i < n) (hj : j < n)
    (hpi : w.cell? ⟨bh, i, none⟩ = some (.pointer (some ⟨bi, 0, none⟩))) (hpj : w.cell? ⟨bh, j, none⟩ = some (.pointer (some ⟨bj, 0, none⟩)))
    (hki : w.cell? ⟨bi, 26, none⟩ = some (.int .i64 ki)) (hkj : w.cell? ⟨bj, 26, none⟩ = some (.int .i64 kj)) (hl : ¬ ki < kj) :
    Calls Yba.prog 27 #[.slice (some ⟨bh, 0, none⟩) n c, .int .i64 i, .int .i64 j] w fun e w' => e = .returned (.bool false) ∧ ∃ m, w' = w.drewN m := by
  have h := less_any bh n c i j bi bj ki kj w hi hj hpi hpj hki hkj
  rwa [decide_eq_false hl] at h

theorem Heaped.drewN {w : World} {bv bh n c L : Nat} {P : Nat → Int} {ids : Nat → Nat} {C : Nat → Int} (h : Heaped w bv bh n c L P ids C) (m : Nat) : Heaped (w.drewN m) bv bh n c L P ids C := ⟨h.var, h.ptr, h.frz, h.key, h.idx, h.fri⟩

theorem Aside.drewN {w w' : World} {bh L n : Nat} (h : Aside w w' bh L n) (m : Nat) : Aside w (w'.drewN m) bh L n := ⟨h.cell, h.size, fun B h1 h2 => below_drewN (h.bel B h1 h2) m⟩

set_option maxRecDepth 100000 in
set_option maxHeartbeats 1000000 in
/-- container/heap.up over a changeHeap: the sift-up. -/
theorem up_any (bv bh n c L : Nat) (P : Nat → Int) (O : Nat → Int) (F : Sift.St) (j0 f0 : Nat) (s0 : Sift.St) (w : World) (_hn : n ≤ 2000000)
    (hbh : bh < L ∨ L + n ≤ bh) (hbv : bv < L ∨ L + n ≤ bv) (hvh : bv ≠ bh)
    (hs : Heaped w bv bh n c L P s0.ids s0.C) (hok : Sift.Ok n O s0) (hj : j0 < n) (hf : j0 ≤ f0) (hF : Hid (Sift.up P f0 j0 s0 = F)) :
    Calls Yba.prog 9 #[.iface 70 (.pointer (some ⟨bv, 0, none⟩)), .int .i64 j0] w fun e w' => e = .returned (.tuple #[]) ∧ Heaped w' bv bh n c L P F.ids F.C ∧ Aside w w' bh L n := by
  have hml := fun w => meth_less ⟨bv, 0, none⟩ (some ⟨bh, 0, none⟩) n c w
  have hms := fun w => meth_swap ⟨bv, 0, none⟩ (some ⟨bh, 0, none⟩) n c w
  go_enter Yba.func9, Yba.ntmps9
  go_wp2_with fail
  go_loopw [1] (fun v wr => ∃ (j f : Nat) (s : Sift.St), v = .int .i64 j ∧ j < n ∧ j ≤ f ∧ Hid (Sift.up P f j s = F) ∧ Heaped wr bv bh n c L P s.ids s.C ∧ Sift.Ok n O s ∧ Aside w wr bh L n) (fun v _ => (intOf v).toNat)
  case atStart => exact ⟨j0, f0, s0, rfl, hj, hf, hF, hs, hok, Aside.refl _ _ _ _⟩
  case round =>
    obtain ⟨j, f, s, rfl, hjn, hjf, hFs, hh, hok', has⟩ := hrel
    have hvar := hh.var
    by_cases h0 : j = 0
    · subst h0
      go_wp2_with fail
      go_end0
      have e := hFs.out
      rw [Sift.up_zero] at e
      subst e
      exact ⟨rfl, hh, has⟩
    · have hpj : (j - 1) / 2 < j := by omega
      have hpn : (j - 1) / 2 < n := by omega
      have lj := hok'.lt j hjn
      have lp := hok'.lt _ hpn
      have kj := hh.key _ lj
      have kp := hh.key _ lp
      have pj := hh.ptr j hjn
      have pp := hh.ptr _ hpn
      generalize hp : (j - 1) / 2 = p at *
      have HP : Hid ((j - 1) / 2 = p) := hp
      clear hp
      have hpI : ((j : Int) - 1) / 2 = (p : Int) := by have := HP.out; omega
      have hne : ((p : Int) == (j : Int)) = false := beq_eq_false_iff_ne.2 (by omega)
      by_cases hl : P (s.ids j) < P (s.ids p)
      · have il := hh.idx _ lj
        have ip := hh.idx _ lp
        have fl := hh.fri _ lj
        have fp := hh.fri _ lp
        have zj := hh.frz j hjn
        have zp := hh.frz p hpn
        have hb : L + s.ids p ≠ L + s.ids j := fun e => by have := hok'.inj p j hpn hjn (by omega); omega
        have hF' : ∃ f', p ≤ f' ∧ Sift.up P f j s = Sift.up P f' p (Sift.step s j p) := by
          have := Sift.up_go P f j s (by omega) hjf (by rw [HP.out]; exact hl)
          rwa [HP.out] at this
        obtain ⟨f', hpf, hup⟩ := hF'
        have HU : Hid (Sift.up P f' p (Sift.step s j p) = F) := hup.symm.trans hFs.out
        clear hup hFs
        go_wp2_with fail
        refine (less_yes bh n c j p (L + s.ids j) (L + s.ids p) (P (s.ids j)) (P (s.ids p)) _ hjn hpn pj pp kj kp hl).mono ?_
        rintro e w1 ⟨rfl, m1, rfl⟩
        go_wp2_with fail
        refine (swap_any bh n c p j (L + s.ids p) (L + s.ids j) _ _ (wr.drewN m1) hpn hjn hpj hb (by omega) (by omega) pp pj zp zj ip il fp fl).mono ?_
        rintro e w2 ⟨rfl, m2, hw2⟩
        obtain ⟨k1, k2⟩ := heaped_swap (m := m2) (hh.drewN m1) hok'.lt hok'.inj hpn hjn (by omega) hbh hbv hvh hw2
        have hok2 := Sift.step_ok hok' hjn hpn
        have has2 := (has.drewN m1).trans k2
        clear hw2 hh hok' has hvar il ip fl fp zj zp kj kp pj pp k2
        go_wp2_with fail
        go_roundw
        case rel => exact ⟨p, f', Sift.step s j p, rfl, hpn, hpf, HU, k1, hok2, has2⟩
        case measure => simp [intOf]; omega
      · go_wp2_with fail
        refine (less_no bh n c j p (L + s.ids j) (L + s.ids p) (P (s.ids j)) (P (s.ids p)) _ hjn hpn pj pp kj kp (by omega)).mono ?_
        rintro e w1 ⟨rfl, m1, rfl⟩
        go_wp2_with fail
        go_end0
        have e := hFs.out
        rw [Sift.up_stop P f j s (by rw [HP.out]; omega)] at e
        subst e
        exact ⟨rfl, hh.drewN m1, has.drewN m1⟩
end Go.Proofs.Ybulkdmim
