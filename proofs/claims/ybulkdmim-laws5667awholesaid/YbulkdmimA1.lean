import Derived.Test.YbulkdmimProg
import Derived.WalkKit
import Derived.WalkLawsBesides
import Derived.WalkSpells
import Derived.Deep.QuietTactic
import Derived.BigQuiet
import Derived.RegionTactic
import Derived.BigRegion
import Derived.Deep.OwnRows
namespace Go.Proofs.Ybulkdmim
open Go.RowKit

/-! ### The methods of *changeHeap through heap.Interface -/
theorem info70 : Yba.prog.info? 70 = some Yba.t70 := by kernel_rfl
theorem wrapchk (a : Addr) (s t : String) (w : World) : (Builtin.ssaWrapNilChk_ #[70] 70 #[.pointer (some a), strVal s, strVal t]).run Yba.prog w = .ok (.pointer (some a)) w := rfl

theorem meth_len (a : Addr) (s : Option Addr) (n c : Nat) (w : World) (h : w.cell? a = some (.slice s n c)) :
    (method 331 70 (.pointer (some a)) "Len").run Yba.prog w = .ok (26, .slice s n c) w := by
  have e : (Yba.t70.methods.find? (·.name == "Len")) = some Yba.t70.methods[0] := by kernel_rfl
  have e2 : (Yba.t70.methods[0]'(by decide)).func = some (26, false) := by kernel_rfl
  have e3 : (Yba.t70.methods[0]'(by decide)).path = #[] := by kernel_rfl
  unfold method
  simp [typeInfo, info70, e, e2, e3, follow, receiverAt, run_underlying Yba.underlying70, Place.get, wrapchk, asAddr]
  simp [loadVar, h]

theorem meth_less (a : Addr) (s : Option Addr) (n c : Nat) (w : World) (h : w.cell? a = some (.slice s n c)) :
    (method 331 70 (.pointer (some a)) "Less").run Yba.prog w = .ok (27, .slice s n c) w := by
  have e : (Yba.t70.methods.find? (·.name == "Less")) = some Yba.t70.methods[1] := by kernel_rfl
  have e2 : (Yba.t70.methods[1]'(by decide)).func = some (27, false) := by kernel_rfl
  have e3 : (Yba.t70.methods[1]'(by decide)).path = #[] := by kernel_rfl
  unfold method
  simp [typeInfo, info70, e, e2, e3, follow, receiverAt, run_underlying Yba.underlying70, Place.get, wrapchk, asAddr]
  simp [loadVar, h]

theorem meth_swap (a : Addr) (s : Option Addr) (n c : Nat) (w : World) (h : w.cell? a = some (.slice s n c)) :
    (method 331 70 (.pointer (some a)) "Swap").run Yba.prog w = .ok (28, .slice s n c) w := by
  have e : (Yba.t70.methods.find? (·.name == "Swap")) = some Yba.t70.methods[4] := by kernel_rfl
  have e2 : (Yba.t70.methods[4]'(by decide)).func = some (28, false) := by kernel_rfl
  have e3 : (Yba.t70.methods[4]'(by decide)).path = #[] := by kernel_rfl
  unfold method
  simp [typeInfo, info70, e, e2, e3, follow, receiverAt, run_underlying Yba.underlying70, Place.get, wrapchk, asAddr]
  simp [loadVar, h]

set_option maxRecDepth 100000 in
theorem len_any (s : Option Addr) (n c : Nat) (w : World) :
    Calls Yba.prog 26 #[.slice s n c] w fun e w' => e = .returned (.int .i64 n) ∧ w' = w := by
  go_enter Yba.func26, Yba.ntmps26
  go_wp2
  go_ret
  exact ⟨rfl, rfl⟩

set_option maxRecDepth 100000 in
set_option maxHeartbeats 1000000 in
theorem less_any (bh n c i j bi bj : Nat) (ki kj : Int) (w : World) (hi : i < n) (hj : j < n)
    (hpi : w.cell? ⟨bh, i, none⟩ = some (.pointer (some ⟨bi, 0, none⟩))) (hpj : w.cell? ⟨bh, j, none⟩ = some (.pointer (some ⟨bj, 0, none⟩)))
    (hki : w.cell? ⟨bi, 26, none⟩ = some (.int .i64 ki)) (hkj : w.cell? ⟨bj, 26, none⟩ = some (.int .i64 kj)) :
    Calls Yba.prog 27 #[.slice (some ⟨bh, 0, none⟩) n c, .int .i64 i, .int .i64 j] w fun e w' => e = .returned (.bool (decide (ki < kj))) ∧ ∃ m, w' = w.drewN m := by
  have hi' : (i : Int) < (n : Int) := by omega
  have hj' : (j : Int) < (n : Int) := by omega
  go_enter Yba.func27, Yba.ntmps27
  go_wp2
  go_quiet (fail)
  go_wp2
  go_ret
  exact ⟨rfl, _, rfl⟩

set_option maxRecDepth 100000 in
set_option maxHeartbeats 1000000 in
theorem swap_any (bh n c i j bi bj : Nat) (ci cj : Value) (w : World) (hi : i < n) (hj : j < n) (hij : i < j) (hb : bi ≠ bj) (hbi : bh ≠ bi) (hbj : bh ≠ bj)
    (hpi : w.cell? ⟨bh, i, none⟩ = some (.pointer (some ⟨bi, 0, none⟩))) (hpj : w.cell? ⟨bh, j, none⟩ = some (.pointer (some ⟨bj, 0, none⟩)))
    (fpi : w.frozen? ⟨bh, i, none⟩ = false) (fpj : w.frozen? ⟨bh, j, none⟩ = false)
    (hki : w.cell? ⟨bi, 27, none⟩ = some ci) (hkj : w.cell? ⟨bj, 27, none⟩ = some cj) (fki : w.frozen? ⟨bi, 27, none⟩ = false) (fkj : w.frozen? ⟨bj, 27, none⟩ = false) :
    Calls Yba.prog 28 #[.slice (some ⟨bh, 0, none⟩) n c, .int .i64 i, .int .i64 j] w fun e w' => e = .returned (.tuple #[]) ∧
      ∃ m, w' = World.drewN ((((w.setCell ⟨bh, i, none⟩ (.pointer (some ⟨bj, 0, none⟩))).setCell ⟨bh, j, none⟩ (.pointer (some ⟨bi, 0, none⟩))).setCell ⟨bj, 27, none⟩ (.int .i64 i)).setCell ⟨bi, 27, none⟩ (.int .i64 j)) m := by
  have hi' : (i : Int) < (n : Int) := by omega
  have hj' : (j : Int) < (n : Int) := by omega
  go_enter Yba.func28, Yba.ntmps28
  go_wp2
  go_region
  have g1 : ((w.setCell ⟨bh, i, none⟩ (.pointer (some ⟨bj, 0, none⟩))).setCell ⟨bh, j, none⟩ (.pointer (some ⟨bi, 0, none⟩))).cell? ⟨bh, i, none⟩ = some (.pointer (some ⟨bj, 0, none⟩)) :=
    (World.cell?_setCell_other _ ⟨bh, j, none⟩ ⟨bh, i, none⟩ _ (by intro h; injection h; omega)).trans (World.cell?_setCell_same w ⟨bh, i, none⟩ _ hpi)
  have g2 : ((w.setCell ⟨bh, i, none⟩ (.pointer (some ⟨bj, 0, none⟩))).setCell ⟨bh, j, none⟩ (.pointer (some ⟨bi, 0, none⟩))).cell? ⟨bh, j, none⟩ = some (.pointer (some ⟨bi, 0, none⟩)) :=
    World.cell?_setCell_same _ ⟨bh, j, none⟩ _ ((World.cell?_setCell_other w ⟨bh, i, none⟩ ⟨bh, j, none⟩ _ (by intro h; injection h; omega)).trans hpj)
  have g3 : ((w.setCell ⟨bh, i, none⟩ (.pointer (some ⟨bj, 0, none⟩))).setCell ⟨bh, j, none⟩ (.pointer (some ⟨bi, 0, none⟩))).cell? ⟨bi, 27, none⟩ = some ci :=
    (World.cell?_setCell_other _ ⟨bh, j, none⟩ ⟨bi, 27, none⟩ _ (by intro h; injection h; omega)).trans ((World.cell?_setCell_other w ⟨bh, i, none⟩ ⟨bi, 27, none⟩ _ (by intro h; injection h; omega)).trans hki)
  have g4 : ((w.setCell ⟨bh, i, none⟩ (.pointer (some ⟨bj, 0, none⟩))).setCell ⟨bh, j, none⟩ (.pointer (some ⟨bi, 0, none⟩))).cell? ⟨bj, 27, none⟩ = some cj :=
    (World.cell?_setCell_other _ ⟨bh, j, none⟩ ⟨bj, 27, none⟩ _ (by intro h; injection h; omega)).trans ((World.cell?_setCell_other w ⟨bh, i, none⟩ ⟨bj, 27, none⟩ _ (by intro h; injection h; omega)).trans hkj)
  have g5 : ((w.setCell ⟨bh, i, none⟩ (.pointer (some ⟨bj, 0, none⟩))).setCell ⟨bh, j, none⟩ (.pointer (some ⟨bi, 0, none⟩))).frozen? ⟨bi, 27, none⟩ = false := by simp [fki]
  have g6 : ((w.setCell ⟨bh, i, none⟩ (.pointer (some ⟨bj, 0, none⟩))).setCell ⟨bh, j, none⟩ (.pointer (some ⟨bi, 0, none⟩))).frozen? ⟨bj, 27, none⟩ = false := by simp [fkj]
  clear hpi hpj fpi fpj hki hkj fki fkj
  generalize hW : (w.setCell ⟨bh, i, none⟩ (.pointer (some ⟨bj, 0, none⟩))).setCell ⟨bh, j, none⟩ (.pointer (some ⟨bi, 0, none⟩)) = W1 at g1 g2 g3 g4 g5 g6 ⊢
  have HW : Hid ((w.setCell ⟨bh, i, none⟩ (.pointer (some ⟨bj, 0, none⟩))).setCell ⟨bh, j, none⟩ (.pointer (some ⟨bi, 0, none⟩)) = W1) := hW
  clear hW
  go_wp2
  go_region
  all_goals (go_end0; rw [HW.out]; exact ⟨rfl, 2, rfl⟩)
end Go.Proofs.Ybulkdmim
