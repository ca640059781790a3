import Derived.Test.YbulkdmimA4
namespace Go.Proofs.Ybulkdmim
open Go.RowKit

set_option maxRecDepth 100000 in
set_option maxHeartbeats 1000000 in
/-- container/heap.down from the last index: nothing to do. -/
theorem down_last (h : Value) (i n : Nat) (w : World) (hn : n ≤ 2000000) (hi : n ≤ i + 1) (hi2 : i ≤ 2000000) :
    Calls Yba.prog 8 #[h, .int .i64 i, .int .i64 n] w fun e w' => e = .returned (.bool false) ∧ w' = w := by
  have hd : decide ((n : Int) ≤ 2 * (i : Int) + 1) = true := by simp; omega
  have hd2 : decide ((i : Int) < (i : Int)) = false := by simp
  go_enter Yba.func8, Yba.ntmps8
  go_wp2_with fail
  go_loop [7] (fun v => v = .int .i64 i) (fun _ => 0)
  case atStart => rfl
  case round =>
    subst hrel
    go_wp2_with fail
    go_ret
    exact ⟨by simp, rfl⟩

theorem down_end (h : Value) (n : Nat) (w : World) (hn : n + 1 ≤ 2000000) :
    Calls Yba.prog 8 #[h, .int .i64 n, .int .i64 ((n : Int) + 1)] w fun e w' => e = .returned (.bool false) ∧ w' = w := by
  have hd := down_last h n (n + 1) w hn (Nat.le_refl _) (by omega)
  rwa [show ((n + 1 : Nat) : Int) = (n : Int) + 1 from by omega] at hd

set_option maxRecDepth 100000 in
set_option maxHeartbeats 1000000 in
/-- container/heap.Fix at the last index: the sift-up. -/
theorem fix_last (bv bh n c L : Nat) (P : Nat → Int) (O : Nat → Int) (F : Sift.St) (s0 : Sift.St) (w : World) (hn : n + 1 ≤ 2000000)
    (hbh : bh < L ∨ L + (n + 1) ≤ bh) (hbv : bv < L ∨ L + (n + 1) ≤ bv) (hvh : bv ≠ bh)
    (hs : Heaped w bv bh (n + 1) c L P s0.ids s0.C) (hok : Sift.Ok (n + 1) O s0) (hF : Hid (Sift.up P n n s0 = F)) :
    Calls Yba.prog 7 #[.iface 70 (.pointer (some ⟨bv, 0, none⟩)), .int .i64 n] w fun e w' => e = .returned (.tuple #[]) ∧ Heaped w' bv bh (n + 1) c L P F.ids F.C ∧ Aside w w' bh L (n + 1) := by
  have hml := fun w => meth_len ⟨bv, 0, none⟩ (some ⟨bh, 0, none⟩) (n + 1) c w
  have hvar := hs.var
  go_enter Yba.func7, Yba.ntmps7
  go_wp2_with fail
  refine (len_any _ _ _ _).mono ?_
  rintro e w1 ⟨rfl, rfl⟩
  go_wp2_with fail
  refine (down_end _ n _ (by omega)).mono ?_
  rintro e w2 ⟨rfl, rfl⟩
  go_wp2_with fail
  refine (up_any bv bh (n + 1) c L P O F n n s0 w2 hn hbh hbv hvh hs hok (by omega) (Nat.le_refl _) hF).mono ?_
  rintro e w3 ⟨rfl, k1, k2⟩
  go_wp2_with fail
  go_end0
  exact ⟨rfl, k1, k2⟩

/-- What an append leaves of n pointers and one more. -/
theorem owned_ptrs {w : World} {base e n : Nat} {v : Value} (g : Nat → Value) (h : w.ownsRow base e 1 v (n + 1) ((List.range n).map g ++ [g n])) :
    ∃ b c, v = .slice (some ⟨b, 0, none⟩) (n + 1) c ∧ base ≤ b ∧ b < w.heap.size ∧ (∀ p, p < n + 1 → w.cell? ⟨b, p, none⟩ = some (g p)) ∧ (∀ p, w.frozen? ⟨b, p, none⟩ = false) := by
  have h' := h
  obtain ⟨_, h | ⟨b, cap, cur, hv, hb, hg, _, _, _, ht⟩⟩ := h
  · omega
  · subst hv
    refine ⟨b, cap, rfl, hb, (Array.getElem?_eq_some_iff.1 hg).1, fun p hp => ?_, fun p => h'.frozenAt p⟩
    rw [h'.cellAt p (by omega)]
    by_cases e : p < n
    · rw [List.getElem?_append_left (by simpa using e)]
      simp [e]
    · obtain rfl : p = n := by omega
      simp

end Go.Proofs.Ybulkdmim
