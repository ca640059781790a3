import Derived.Test.YbulkdmkcDoorC8
import Derived.Test.YbulkdmkcDoorC9
namespace Go.Proofs.YbulkdmkcDoor
open Go Go.RowKit Go.MuLone

theorem cell_drewN (w : World) (n : Nat) (a : Addr) : (w.drewN n).cell? a = w.cell? a := rfl
theorem frozen_drewN (w : World) (n : Nat) (a : Addr) : (w.drewN n).frozen? a = w.frozen? a := rfl

set_option maxHeartbeats 4000000 in
set_option maxRecDepth 100000 in
/-- (*syncBuffer).String on a lock that is free. -/
theorem sync_string (b : Nat) (l : List UInt8) (own : Option Nat) (w : World) (h : Buf w b 2 37 (Rl 0) (Lib.byteCells l) own) :
    Calls Ybad.prog 14 #[.pointer (some ⟨b, 0, none⟩)] w fun e w' => e = .returned (.string ⟨l.toArray⟩) ∧ ∃ n, w' = ((w.setCell ⟨b, 0, none⟩ (.int .i32 1)).drewN n).setCell ⟨b, 0, none⟩ (.int .i32 0) := by
  obtain ⟨c0, f0⟩ := buf_state h
  have b1 : Buf (w.setCell ⟨b, 0, none⟩ (.int .i32 1)) b 2 37 (Rl 1) (Lib.byteCells l) own := buf_lock 1 h
  obtain ⟨c1, f1⟩ := buf_state b1
  have B1 : Hid (LibA.IsBuffer 37 (Rl 1) 5 0 b 2 (Lib.byteCells l) (w.setCell ⟨b, 0, none⟩ (.int .i32 1))) := b1.isBuffer
  clear h b1
  go_enter_defers Ybad.func14, Ybad.ntmps14
  go_wp2_with (go_at_call 19; refine (lock_free muLib ⟨b, 0, none⟩ _ c0 f0).mono ?_; rintro e w' ⟨rfl, rfl⟩)
  refine (Ybad.Buffer_String_at 37 (Rl 1) 0 b 2 l _ B1.out).mono ?_
  rintro e w' ⟨rfl, n, rfl⟩
  go_wp2_with fail
  refine leaves_cons (f := 13) (args := #[.pointer (some ⟨b, 0, none⟩)]) (by simp) (by simp [go_sem]) ?_
  refine (unlock_deferred muLib ⟨b, 0, none⟩ .returning _ ((cell_drewN _ _ _).trans c1) ((frozen_drewN _ _ _).trans f1)).mono ?_
  rintro e u' w'' ⟨rfl, rfl, rfl⟩
  refine ⟨_, results_tmp rfl _ _ _, rfl, n, rfl⟩

end Go.Proofs.YbulkdmkcDoor
