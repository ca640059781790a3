import Derived.Test.YbulkdmkcDoorC11
namespace Go.Proofs.YbulkdmkcDoor
open Go Go.RowKit Go.MuLone

set_option maxHeartbeats 1000000 in
set_option maxRecDepth 100000 in
/-- (*internal/sync.Mutex).TryLock, the lock free. -/
theorem itry_free (a : Addr) (w : World) (hc : w.cell? a = some (.int .i32 0)) (hz : w.frozen? a = false) :
    Calls Ybad.prog 20 #[.pointer (some a)] w fun e w' => e = .returned (.bool true) ∧ w' = w.setCell a (.int .i32 1) := by
  have hd := disable muLib
  have he := enable muLib
  have hr := acquire muLib
  have hcas := run_call_cas_hit (P := Ybad.prog) muLib.f_cas32 (by kernel_rfl) (by kernel_rfl) (by kernel_rfl) .i32 (by kernel_rfl) (x := 0) (y := 1) hc hz
  have hc' : (w.setCell a (.int .i32 1)).cell? a = some (.int .i32 1) := by simp [go_sem, hc]
  have hcv := run_convert_to_unsafe (P := Ybad.prog) (src := muLink.tPIMutex) (dst := muLink.tUP) muLib.underlying_tPIMutex muLib.underlying_tUP muLib.room_tIMutex hc'
  go_enter Ybad.func20, Ybad.ntmps20
  go_wp2
  go_ret
  exact ⟨rfl, rfl⟩

set_option maxHeartbeats 1000000 in
set_option maxRecDepth 100000 in
/-- (*sync.Mutex).TryLock, the lock free. -/
theorem try_free (a : Addr) (w : World) (hc : w.cell? a = some (.int .i32 0)) (hz : w.frozen? a = false) :
    Calls Ybad.prog 12 #[.pointer (some a)] w fun e w' => e = .returned (.bool true) ∧ w' = w.setCell a (.int .i32 1) := by
  go_enter Ybad.func12, Ybad.ntmps12
  go_wp2_with fail
  refine (itry_free a w hc hz).mono ?_
  rintro e w' ⟨rfl, rfl⟩
  go_wp2_with fail
  go_ret
  exact ⟨rfl, rfl⟩

set_option maxHeartbeats 1000000 in
set_option maxRecDepth 100000 in
/-- (*bytes.Buffer).Bytes. -/
theorem bytes_any (b q T : Nat) (R : Nat → Option Value) (l : List UInt8) (own : Option Nat) (w : World) (h : Buf w b q T R (Lib.byteCells l) own) :
    Calls Ybad.prog 10 #[.pointer (some ⟨b, q, none⟩)] w fun e w' => ∃ ao c, e = .returned (.slice ao l.length c) ∧ Bs w ao l ∧ ∃ n, w' = w.drewN n := by
  obtain ⟨lr, ⟨_, hnil, h3⟩ | ⟨g, cap, cur, _, h3, hg, h1, h2, h4, h5, h6⟩⟩ := h
  · have c0 := h3.c0
    have c1 := h3.c1
    have hl : l = [] := List.eq_nil_of_length_eq_zero (by rw [← byteCells_len, hnil]; rfl)
    subst hl
    clear h3
    go_enter Ybad.func10, Ybad.ntmps10
    go_wp2_with fail
    go_quiet (fail)
    go_wp2_with fail
    go_ret
    exact ⟨none, 0, rfl, fun h => absurd rfl h, nq, rfl⟩
  · have c0 := h3.c0
    have c1 := h3.c1
    rw [byteCells_len] at c0 h1 h5
    have HB : Hid (Bs w (some ⟨g, 0, none⟩) l) := fun _ => ⟨_, rfl, fun j v hj => by
      rw [Addr.add_lit, Nat.zero_add]
      have hjl : j < l.length := by
        have := (List.getElem?_eq_some_iff.1 hj).1
        rwa [byteCells_len] at this
      rw [Lib.cell_of_heap hg, ← hj, ← h5, List.getElem?_take, if_pos hjl]
      simp⟩
    unfold maxLen at h2
    clear h3 hg h5
    go_enter Ybad.func10, Ybad.ntmps10
    go_wp2_with fail
    go_quiet (fail)
    go_wp2_with fail
    go_ret
    exact ⟨_, _, rfl, HB.out, nq, rfl⟩
end Go.Proofs.YbulkdmkcDoor
