import Derived.Test.YbulkdmimB1
import Derived.LaidEqlPtr
namespace Go.Proofs.Ybulkdmim
open Go.RowKit

theorem neq_func (w : World) : (binOp .neq 61 .nilFunc .nilFunc).run Yba.prog w = .ok (.bool false) w := by kernel_rfl

set_option maxRecDepth 100000 in
set_option maxHeartbeats 1000000 in
theorem walk_no (g now loading wakeAt : Int) (waking : Bool) (w : World) :
    Calls Yba.prog 4 #[.int .i64 g, .int .i64 now, .int .i64 loading, .int .i64 wakeAt, .bool waking, .bool false] w fun e w' => e = .returned (.bool true) ∧ Below w.heap.size w w' := by
  have hnf := neq_func
  go_enter Yba.func4, Yba.ntmps4
  go_wp2
  go_end0
  go_wp2
  go_ret
  exact ⟨rfl, (Below.refl _ _).alloc (Nat.le_refl _) _⟩

theorem info64 : Yba.prog.info? 64 = some Yba.t64 := by kernel_rfl
theorem info67 : Yba.prog.info? 67 = some Yba.t67 := by kernel_rfl
theorem info63 : Yba.prog.info? 63 = some Yba.t63 := by kernel_rfl
theorem eql_sim_same (a : Addr) (w : World) : (binOp .eql 50 (.pointer (some a)) (.pointer (some a))).run Yba.prog w = .ok (.bool true) w := run_eql_ptr_same w a Yba.underlying50 info63
theorem comp64 : Yba.t64.comparable = true := by kernel_rfl

/-- 'x != y', both interface values the same pointer: false. -/
theorem neq_iface_same (a : Addr) (w : World) : (binOp .neq 57 (.iface 64 (.pointer (some a))) (.iface 64 (.pointer (some a)))).run Yba.prog w = .ok (.bool false) w := by
  simp only [binOp]
  simp [Op.equal, Op.maxDepth, run_equalIn_iface_ptr_same w 9998 a Yba.underlying57 Yba.underlying64 info64 comp64 info67]

theorem method_started (a : Addr) (w : World) : (method 331 64 (.pointer (some a)) "Started").run Yba.prog w = .ok (41, .pointer (some a)) w := by kernel_rfl

set_option maxRecDepth 100000 in
set_option maxHeartbeats 1000000 in
theorem walk_yes (g now loading wakeAt : Int) (waking : Bool) (w : World) :
    Calls Yba.prog 4 #[.int .i64 g, .int .i64 now, .int .i64 loading, .int .i64 wakeAt, .bool waking, .bool true] w fun e w' => e = .returned (.bool true) ∧ Below w.heap.size w w' := by
  have hnf := neq_func
  have hms := method_started
  have hes := eql_sim_same
  have hni := neq_iface_same
  go_enter Yba.func4, Yba.ntmps4
  go_wp2_with (first | (go_at_call 6; go_in))
  refine (started (w.heap.size + 1) (some ⟨w.heap.size, 0, none⟩) g _ ?_ ?_ ?_ ?_).mono ?_
  · simp
  · simp
  · simp
  · simp
  rintro e w1 ⟨rfl, b1, c1, b2, c2, k0, k1, k2, k3, kold, k4, bel⟩
  have B : Below w.heap.size w w1 := (((Below.refl _ w).alloc (Nat.le_refl _) _).alloc (by simp) _).trans (bel.mono (by omega))
  have HB : Hid (Below w.heap.size w w1) := B
  have c0 : w1.cell? ⟨w.heap.size, 0, none⟩ = some (.int .i64 now) := (kold w.heap.size 0 (by simp; omega) (by omega)).trans (by simp)
  have c1 : w1.cell? ⟨w.heap.size, 1, none⟩ = some (.pointer none) := (kold w.heap.size 1 (by simp; omega) (by omega)).trans (by simp)
  have c2 : w1.cell? ⟨w.heap.size, 2, none⟩ = some (.slice none 0 0) := (kold w.heap.size 2 (by simp; omega) (by omega)).trans (by simp)
  have c3 : w1.cell? ⟨w.heap.size, 3, none⟩ = some (.pointer none) := (kold w.heap.size 3 (by simp; omega) (by omega)).trans (by simp)
  have c4 : w1.cell? ⟨w.heap.size, 4, none⟩ = some (.nilIface) := (kold w.heap.size 4 (by simp; omega) (by omega)).trans (by simp)
  have c5 : w1.cell? ⟨w.heap.size, 5, none⟩ = some (.iface 64 (.pointer (some ⟨w.heap.size + 1, 0, none⟩))) := (kold w.heap.size 5 (by simp; omega) (by omega)).trans (by simp)
  have c6 : w1.cell? ⟨w.heap.size, 6, none⟩ = some (.pointer none) := (kold w.heap.size 6 (by simp; omega) (by omega)).trans (by simp)
  have c7 : w1.cell? ⟨w.heap.size, 7, none⟩ = some (.pointer none) := (kold w.heap.size 7 (by simp; omega) (by omega)).trans (by simp)
  have c8 : w1.cell? ⟨w.heap.size, 8, none⟩ = some (.pointer none) := (kold w.heap.size 8 (by simp; omega) (by omega)).trans (by simp)
  have c9 : w1.cell? ⟨w.heap.size, 9, none⟩ = some (.nilFunc) := (kold w.heap.size 9 (by simp; omega) (by omega)).trans (by simp)
  have c10 : w1.cell? ⟨w.heap.size, 10, none⟩ = some (.int .i64 loading) := (kold w.heap.size 10 (by simp; omega) (by omega)).trans (by simp)
  have c11 : w1.cell? ⟨w.heap.size, 11, none⟩ = some (.int .i64 wakeAt) := (kold w.heap.size 11 (by simp; omega) (by omega)).trans (by simp)
  have c12 : w1.cell? ⟨w.heap.size, 12, none⟩ = some (.bool waking) := (kold w.heap.size 12 (by simp; omega) (by omega)).trans (by simp)
  have k4' : w1.cell? ⟨w.heap.size + 1, 2, none⟩ = some (.int .i64 0) := k4.trans (by simp)
  clear kold bel B k4
  go_wp2
  go_end0
  go_wp2
  go_ret
  exact ⟨rfl, HB.out⟩
end Go.Proofs.Ybulkdmim
