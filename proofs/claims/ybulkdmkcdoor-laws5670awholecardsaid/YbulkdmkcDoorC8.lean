import Derived.Test.YbulkdmkcDoorC7
import Derived.Test.YbulkdmkcDoorLocks
import Derived.Defers
import Derived.Lib.BufferAt
namespace Go.Proofs.YbulkdmkcDoor
open Go Go.RowKit Go.MuLone

/-- (*bytes.Buffer).Write, whatever is written. -/
theorem write_all (b q T : Nat) (R : Nat → Option Value) (bs cs : List Value) (own : Option Nat) (ao : Option Addr) (n c : Nat) (w : World) (h : Buf w b q T R bs own) (h1 : ∀ v ∈ bs, v.oneCell' = true)
    (hn : cs.length = n) (hsrc : 1 ≤ n → ∃ a : Addr, ao = some a ∧ a.block ≠ b ∧ some a.block ≠ own ∧ ∀ j v, cs[j]? = some v → w.cell? (a.add j) = some v) (h1c : ∀ v ∈ cs, v.oneCell' = true) (hlim : bs.length + n ≤ 140737488355328) :
    Calls Ybad.prog 7 #[.pointer (some ⟨b, q, none⟩), .slice ao n c] w fun e w' => e = .returned (.tuple #[.int .i64 n, .nilIface]) ∧ ∃ own', Buf w' b q T R (bs ++ cs) own' ∧ (own' = own ∨ ∃ N, own' = some N ∧ w.heap.size ≤ N) ∧ Fr w w' b own := by
  by_cases h0 : n = 0
  · subst h0
    obtain rfl : cs = [] := List.eq_nil_of_length_eq_zero hn
    refine (write_none b q T R bs own ao c w h).mono ?_
    rintro e w' ⟨rfl, k1, k2⟩
    exact ⟨rfl, own, by rw [List.append_nil]; exact k1, .inl rfl, k2⟩
  · have hn1 : 1 ≤ n := by omega
    obtain ⟨a, rfl, a1, a2, a3⟩ := hsrc hn1
    exact write_some b q T R bs cs own a n c w h h1 hn (by omega) a1 a2 a3 h1c hlim

/-- The struct's other cells: the lock's state, its semaphore. -/
def Rl (s : Int) : Nat → Option Value := fun i => if i = 0 then some (.int .i32 s) else if i = 1 then some (.int .u32 0) else none

theorem three_lock {w : World} {b T : Nat} {s s' : Int} {x y z : Value} (h : LibA.Three w b 2 T (Rl s) x y z) : LibA.Three (w.setCell ⟨b, 0, none⟩ (.int .i32 s')) b 2 T (Rl s') x y z := by
  obtain ⟨cs, hb, h0, h1, h2, hr⟩ := h
  have hlt : 2 < cs.size := (Array.getElem?_eq_some_iff.1 h0).1
  refine ⟨_, Lib.heap_setCell_same (i := 0) hb _, by rw [Array.getElem?_setIfInBounds_ne (by omega)]; exact h0, by rw [Array.getElem?_setIfInBounds_ne (by omega)]; exact h1, by rw [Array.getElem?_setIfInBounds_ne (by omega)]; exact h2, fun i hi => ?_⟩
  by_cases e : i = 0
  · subst e
    rw [Array.getElem?_setIfInBounds_self_of_lt (by omega)]
    rfl
  · rw [Array.getElem?_setIfInBounds_ne (by omega), hr i hi]
    unfold Rl
    rw [if_neg e, if_neg e]

theorem buf_lock {w : World} {b T : Nat} {s : Int} (s' : Int) {bs : List Value} {own : Option Nat} (h : Buf w b 2 T (Rl s) bs own) : Buf (w.setCell ⟨b, 0, none⟩ (.int .i32 s')) b 2 T (Rl s') bs own := by
  obtain ⟨lr, ⟨h1, h2, h3⟩ | ⟨g, cap, cur, h1, h3, hg, h4, h5, h6, h7, h8⟩⟩ := h
  · exact ⟨lr, .inl ⟨h1, h2, three_lock h3⟩⟩
  · exact ⟨lr, .inr ⟨g, cap, cur, h1, three_lock h3, by rw [Below.heap_setCell _ _ _ _ h8]; exact hg, h4, h5, h6, h7, h8⟩⟩

theorem buf_state {w : World} {b T : Nat} {s : Int} {bs : List Value} {own : Option Nat} (h : Buf w b 2 T (Rl s) bs own) : w.cell? ⟨b, 0, none⟩ = some (.int .i32 s) ∧ w.frozen? ⟨b, 0, none⟩ = false := by
  obtain ⟨lr, ⟨_, _, h3⟩ | ⟨g, cap, cur, _, h3, _⟩⟩ := h
  · exact ⟨h3.rest 0 (.inl (by omega)), h3.f 0⟩
  · exact ⟨h3.rest 0 (.inl (by omega)), h3.f 0⟩

theorem fr_lock (w : World) (b : Nat) (own : Option Nat) (v : Value) : Fr w (w.setCell ⟨b, 0, none⟩ v) b own := Fr.of_grown (Lib.grownBy_setCell w b 0 v)

set_option maxHeartbeats 4000000 in
set_option maxRecDepth 100000 in
/-- (*syncBuffer).Write on a lock that is free. -/
theorem sync_write (b : Nat) (bs cs : List Value) (own : Option Nat) (ao : Option Addr) (n c : Nat) (w : World) (h : Buf w b 2 37 (Rl 0) bs own) (h1 : ∀ v ∈ bs, v.oneCell' = true)
    (hn : cs.length = n) (hsrc : 1 ≤ n → ∃ a : Addr, ao = some a ∧ a.block ≠ b ∧ some a.block ≠ own ∧ ∀ j v, cs[j]? = some v → w.cell? (a.add j) = some v) (h1c : ∀ v ∈ cs, v.oneCell' = true) (hlim : bs.length + n ≤ 140737488355328) :
    Calls Ybad.prog 8 #[.pointer (some ⟨b, 0, none⟩), .slice ao n c] w fun e w' => e = .returned (.tuple #[.int .i64 n, .nilIface]) ∧ ∃ own', Buf w' b 2 37 (Rl 0) (bs ++ cs) own' ∧ (own' = own ∨ ∃ N, own' = some N ∧ w.heap.size ≤ N) ∧ Fr w w' b own := by
  obtain ⟨c0, f0⟩ := buf_state h
  have B1 : Hid (Buf (w.setCell ⟨b, 0, none⟩ (.int .i32 1)) b 2 37 (Rl 1) bs own) := buf_lock 1 h
  have F1 : Hid (Fr w (w.setCell ⟨b, 0, none⟩ (.int .i32 1)) b own) := fr_lock w b own _
  have S1 : Hid (1 ≤ n → ∃ a : Addr, ao = some a ∧ a.block ≠ b ∧ some a.block ≠ own ∧ ∀ j v, cs[j]? = some v → (w.setCell ⟨b, 0, none⟩ (.int .i32 1)).cell? (a.add j) = some v) := fun hn1 => by
    obtain ⟨a, e, a1, a2, a3⟩ := hsrc hn1
    refine ⟨a, e, a1, a2, fun j v hj => ?_⟩
    rw [World.cell?_setCell_other _ _ _ _ (by intro h; have := congrArg Addr.block h; rw [Lib.block_add] at this; exact a1 this.symm)]
    exact a3 j v hj
  clear h hsrc
  go_enter_defers Ybad.func8, Ybad.ntmps8
  go_wp2_with (go_at_call 19; refine (lock_free muLib ⟨b, 0, none⟩ _ c0 f0).mono ?_; rintro e w' ⟨rfl, rfl⟩)
  refine (write_all b 2 37 (Rl 1) bs cs own ao n c _ B1.out h1 hn S1.out h1c hlim).mono ?_
  rintro e W1 ⟨rfl, own', k1, k2, k3⟩
  obtain ⟨c1, f1⟩ := buf_state k1
  rw [World.size_setCell] at k2
  have K : Hid (∃ own', Buf (W1.setCell ⟨b, 0, none⟩ (.int .i32 0)) b 2 37 (Rl 0) (bs ++ cs) own' ∧ (own' = own ∨ ∃ N, own' = some N ∧ w.heap.size ≤ N) ∧ Fr w (W1.setCell ⟨b, 0, none⟩ (.int .i32 0)) b own) := ⟨own', buf_lock 0 k1, k2, (F1.out.trans k3).trans (fr_lock W1 b own _)⟩
  clear k1 k2 k3
  go_wp2_with fail
  refine leaves_cons (f := 13) (args := #[.pointer (some ⟨b, 0, none⟩)]) (by simp) (by simp [go_sem]) ?_
  refine (unlock_deferred muLib ⟨b, 0, none⟩ .returning _ c1 f1).mono ?_
  rintro e u' w'' ⟨rfl, rfl, rfl⟩
  exact ⟨_, results_tmp2 rfl _ _ _, rfl, K.out⟩

end Go.Proofs.YbulkdmkcDoor
