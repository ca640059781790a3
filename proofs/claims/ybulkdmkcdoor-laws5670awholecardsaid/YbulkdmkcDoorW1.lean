import Derived.Test.YbulkdmkcDoorC11
namespace Go.Proofs.YbulkdmkcDoor
open Go Go.RowKit Go.MuLone

/-- Two looks at a type ahead of what is done. -/
theorem bind_twice {P : Program} {w : World} {s t : TypeId} {d e : TypeDesc} (m : Sem Value) (G : TypeDesc → TypeDesc → Sem Value) (hm : m = (underlying s >>= fun d1 => underlying t >>= fun d2 => G d1 d2))
    (hs : P.underlying s = some d) (ht : P.underlying t = some e) : m.run P w = (G d e).run P w := by
  subst hm
  simp [run_underlying hs, run_underlying ht, Result.andThen]

/-- The lock's address, handed to the race detector's mark. -/
theorem conv_mu (a : Addr) (v : Value) (w : World) (hc : w.cell? a = some v) : (convert 67 71 (.pointer (some a))).run Ybad.prog w = .ok (.pointer (some a)) w := by
  obtain ⟨e, n, hsh, hlt, hsp⟩ := World.shape?_of_cell? hc
  obtain ⟨i, hi, hz0⟩ := Option.map_eq_some_iff.1 muLib.room_tIMutex
  have hz : i.size ≠ 0 := by simpa using hz0
  have hge : ¬ (n ≤ a.off) := by omega
  have hi' : Ybad.prog.info? 29 = some i := hi
  have hs : Ybad.prog.underlying 67 = some (.pointer 29) := muLib.underlying_tPIMutex
  have hd := muLib.underlying_tUP
  simp [convert, run_underlying hs, run_underlying hd, Result.andThen]
  refine (bind_twice (s := 67) (t := 71) _ ?G ?h hs hd).trans ?_
  case h => exact rfl
  simp [Conv.seenAt, viewAt, cellsIn, sizeOf, typeInfo, hi', hz, hsh, hge, Result.andThen]

set_option maxHeartbeats 1000000 in
set_option maxRecDepth 100000 in
/-- (*internal/sync.Mutex).TryLock, the lock free. -/
theorem itry_free (a : Addr) (w : World) (hc : w.cell? a = some (.int .i32 0)) (hz : w.frozen? a = false) :
    Calls Ybad.prog 20 #[.pointer (some a)] w fun e w' => e = .returned (.bool true) ∧ w' = w.setCell a (.int .i32 1) := by
  have hd := disable muLib
  have he := enable muLib
  have hr := acquire muLib
  have hcas := run_call_cas_hit (P := Ybad.prog) muLib.f_cas32 (by kernel_rfl) (by kernel_rfl) (by kernel_rfl) .i32 (by kernel_rfl) (x := 0) (y := 1) hc hz
  have hc' : (w.setCell a (.int .i32 1)).cell? a = some (.int .i32 1) := by simp [go_sem, hc]
  have hcv := conv_mu a _ _ hc'
  go_enter Ybad.func20, Ybad.ntmps20
  go_wp2
  go_ret
  exact ⟨rfl, rfl⟩

set_option maxHeartbeats 1000000 in
set_option maxRecDepth 100000 in
/-- (*sync.Mutex).TryLock, the lock free. -/
theorem try_free (a : Addr) (w : World) (hc : w.cell? a = some (.int .i32 0)) (hz : w.frozen? a = false) :
    Calls Ybad.prog 12 #[.pointer (some a)] w fun e w' => e = .returned (.bool true) ∧ w' = w.setCell a (.int .i32 1) := by
  go_enter Ybad.func12, Ybad.ntmps12
  go_wp2_with fail
  refine (itry_free a w hc hz).mono ?_
  rintro e w' ⟨rfl, rfl⟩
  go_wp2_with fail
  go_ret
  exact ⟨rfl, rfl⟩

set_option maxHeartbeats 1000000 in
set_option maxRecDepth 100000 in
/-- (*bytes.Buffer).Bytes. -/
theorem bytes_any (b q T : Nat) (R : Nat → Option Value) (l : List UInt8) (own : Option Nat) (w : World) (h : Buf w b q T R (Lib.byteCells l) own) :
    Calls Ybad.prog 10 #[.pointer (some ⟨b, q, none⟩)] w fun e w' => ∃ ao c, e = .returned (.slice ao l.length c) ∧ Bs w ao l ∧ ∃ n, w' = w.drewN n := by
  obtain ⟨lr, ⟨_, hnil, h3⟩ | ⟨g, cap, cur, _, h3, hg, h1, h2, h4, h5, h6⟩⟩ := h
  · have c0 := h3.c0
    have c1 := h3.c1
    have hl : l = [] := List.eq_nil_of_length_eq_zero (by rw [← byteCells_len, hnil]; rfl)
    subst hl
    clear h3
    go_enter Ybad.func10, Ybad.ntmps10
    go_wp2_with fail
    go_quiet (fail)
    go_wp2_with fail
    go_ret
    exact ⟨none, 0, rfl, fun h => absurd rfl h, nq, rfl⟩
  · have c0 := h3.c0
    have c1 := h3.c1
    rw [byteCells_len] at c0 h1 h5
    have HB : Hid (Bs w (some ⟨g, 0, none⟩) l) := fun _ => ⟨_, rfl, fun j v hj => by
      rw [Addr.add_lit, Nat.zero_add]
      have hjl : j < l.length := by
        have := (List.getElem?_eq_some_iff.1 hj).1
        rwa [byteCells_len] at this
      rw [Lib.cell_of_heap hg, ← hj, ← h5, List.getElem?_take, if_pos hjl]
      simp⟩
    unfold maxLen at h2
    clear h3 hg h5
    go_enter Ybad.func10, Ybad.ntmps10
    go_wp2_with fail
    go_quiet (fail)
    go_wp2_with fail
    go_ret
    exact ⟨_, _, rfl, HB.out, nq, rfl⟩
end Go.Proofs.YbulkdmkcDoor
