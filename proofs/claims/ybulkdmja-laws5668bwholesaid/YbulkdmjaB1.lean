import Derived.Test.YbulkdmjaProg
import Derived.WalkKit
import Derived.WalkLawsBesides
import Derived.WalkSpells
import Derived.RegionTactic
import Derived.BigRegion
import Derived.LaidEqlPtr
import Derived.Lib.Builder
namespace Go.Proofs.Ybulkdmja
open Go.RowKit

set_option maxRecDepth 100000 in
set_option maxHeartbeats 1000000 in
/-- (*statusError).status: the Failure object, in a new block. -/
theorem status_any (b : Nat) (code : Int) (rsn msg : ByteArray) (d : Option Addr) (w : World)
    (h0 : w.cell? ⟨b, 0, none⟩ = some (.int .i64 code)) (h1 : w.cell? ⟨b, 1, none⟩ = some (.string rsn)) (h2 : w.cell? ⟨b, 2, none⟩ = some (.string msg)) (h3 : w.cell? ⟨b, 3, none⟩ = some (.pointer d)) :
    Calls Yba.prog 4 #[.pointer (some ⟨b, 0, none⟩)] w fun e w' =>
      e = .returned (.agg #[.string { data := #[83, 116, 97, 116, 117, 115] }, .string { data := #[118, 49] }, .string { data := #[70, 97, 105, 108, 117, 114, 101] }, .string msg, .string rsn, .pointer d, .int .i64 code]) ∧
      (w.alloc (.cells #[.string { data := #[83, 116, 97, 116, 117, 115] }, .string { data := #[118, 49] }, .string { data := #[70, 97, 105, 108, 117, 114, 101] }, .string msg, .string rsn, .pointer d, .int .i64 code] 32)).drew = w' := by
  have hlt : b < w.heap.size := World.block_lt_of_cell? w _ h0
  go_enter Yba.func4, Yba.ntmps4
  go_wp2
  go_region
  go_wp2
  exact bodyPost_ret (v := .agg #[.string { data := #[83, 116, 97, 116, 117, 115] }, .string { data := #[118, 49] }, .string { data := #[70, 97, 105, 108, 117, 114, 101] }, .string msg, .string rsn, .pointer d, .int .i64 code]) (by simp [results, Yba.results4, go_sem]) rfl ⟨rfl, rfl⟩

set_option maxRecDepth 100000 in
set_option maxHeartbeats 1000000 in
theorem walk_no (code : Int) (rsn msg n1 n2 n3 : ByteArray) (w : World) :
    Calls Yba.prog 3 #[.int .i64 code, .string rsn, .string msg, .bool false, .string n1, .string n2, .string n3] w fun e w' => e = .returned (.bool true) ∧ Grown w w' := by
  go_enter Yba.func3, Yba.ntmps3
  go_wp2_with fail
  refine (status_any w.heap.size code rsn msg none _ ?_ ?_ ?_ ?_).mono ?_
  · simp
  · simp
  · simp
  · simp
  rintro e w1 ⟨rfl, rfl⟩
  go_wp2_with fail
  go_ret
  exact ⟨rfl, by repeat (first | exact Grown.refl _ | apply Grown.drew | apply Grown.alloc)⟩

theorem info24 : Yba.prog.info? 24 = some Yba.t24 := by kernel_rfl
/-- 'p != p' on pointers to details: false. -/
theorem neq_details (a : Addr) (w : World) : (binOp .neq 22 (.pointer (some a)) (.pointer (some a))).run Yba.prog w = .ok (.bool false) w := Lib.run_neq_ptr_same w a Yba.underlying22 info24

set_option maxRecDepth 100000 in
set_option maxHeartbeats 1000000 in
theorem walk_yes (code : Int) (rsn msg n1 n2 n3 : ByteArray) (w : World) :
    Calls Yba.prog 3 #[.int .i64 code, .string rsn, .string msg, .bool true, .string n1, .string n2, .string n3] w fun e w' => e = .returned (.bool true) ∧ Grown w w' := by
  have hnd := neq_details
  go_enter Yba.func3, Yba.ntmps3
  go_wp2_with fail
  refine (status_any (w.heap.size + 1) code rsn msg (some ⟨w.heap.size, 0, none⟩) _ ?_ ?_ ?_ ?_).mono ?_
  · simp
  · simp
  · simp
  · simp
  rintro e w1 ⟨rfl, rfl⟩
  go_wp2_with fail
  go_ret
  exact ⟨rfl, by repeat (first | exact Grown.refl _ | apply Grown.drew | apply Grown.alloc)⟩
end Go.Proofs.Ybulkdmja
