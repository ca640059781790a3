import Derived.Test.YbulkdmjoProg
import Derived.Test.YbulkdmjoB1
import Derived.WalkKit
import Derived.WalkLawsBesides
import Derived.WalkSpells
import Derived.Deep.QuietTactic
import Derived.BigQuiet
import Derived.Deep.OwnRows
import Derived.WalkSmall
namespace Go.Proofs.Ybulkdmjo
open Go.RowKit

theorem info5 : (Yba.prog.info? 5).map (fun i => (i.zero, i.size, i.bytes)) = some (some (.int .u8 0), 1, 1) := by kernel_rfl
theorem info24 : (Yba.prog.info? 24).map (fun i => (i.zero, i.size, i.bytes)) = some (some (.int .u64 0), 1, 8) := by kernel_rfl

/-- The digits laid so far: the first m of them. -/
structure Digs (w : World) (b n : Nat) (X : Nat → Int) (m : Nat) (wr : World) : Prop where
  row : wr.rowIs b 5 (n * 5) (fun q => if q < m then .int .u8 (Dec.dg X q) else .int .u8 0)
  bel : Below b w wr
  size : wr.heap.size = b + 1

theorem digs_step {w wr : World} {b n m : Nat} {X : Nat → Int} (h : Digs w b n X m wr) (v : Int) (hv : Dec.dg X m = v) : Digs w b n X (m + 1) (wr.setCell ⟨b, m, none⟩ (.int .u8 v)) := by
  refine ⟨(h.row.set m _).congr fun q _ => ?_, h.bel.setCell (p := ⟨b, m, none⟩) (Nat.le_refl _) _, by simp [h.size]⟩
  by_cases e : q = m
  · rw [if_pos e, if_pos (by omega), e, hv]
  · rw [if_neg e]
    by_cases e2 : q < m
    · rw [if_pos e2, if_pos (by omega)]
    · rw [if_neg e2, if_neg (by omega)]

set_option maxRecDepth 100000 in
set_option maxHeartbeats 1000000 in
/-- zzs5669bdigits: the limbs' digits, least significant first. -/
theorem digits_any (bs len n : Nat) (X : Nat → Int) (w : World) (hn : n ≤ 1048576) (hl : len ≤ n) (hX : Dec.Limbs X) (hz : ∀ i, len ≤ i → X i = 0)
    (hc : ∀ i, i < len → w.cell? ⟨bs, i, none⟩ = some (.int .u64 (X i))) :
    Calls Yba.prog 4 #[.slice (some ⟨bs, 0, none⟩) len len, .int .i64 n] w fun e w' => e = .returned (.slice (some ⟨w.heap.size, 0, none⟩) (n * 5) (n * 5)) ∧
      w'.rowIs w.heap.size 5 (n * 5) (fun q => .int .u8 (Dec.dg X q)) ∧ Below w.heap.size w w' ∧ w'.heap.size = w.heap.size + 1 := by
  have mk := run_make_row' (P := Yba.prog) 25 5 _ _ Yba.underlying25 info5 rfl .i64 .i64 (n * 5) (by omega) (by omega)
  rw [show ((n * 5 : Nat) : Int) = (n : Int) * 5 from by omega] at mk
  have HC : Hid _ := hc
  have HX : Hid _ := hX
  have HZ : Hid _ := hz
  have hbs : ∀ i, i < len → bs < w.heap.size := fun i hi => World.block_lt_of_cell? w _ (hc i hi)
  have HBS : Hid _ := hbs
  clear hc hX hz hbs
  go_enter Yba.func4, Yba.ntmps4
  go_wp2_with fail
  have D0 : Digs w w.heap.size n X 0 (w.alloc (Obj.cells (madeCells #[Value.int IntKind.u8 0] (n * 5)) 5)) :=
    ⟨(World.rowIs_made w (.int .u8 0) (n * 5) 5).congr (fun i _ => by simp), (Below.refl _ _).alloc (Nat.le_refl _) _, by simp⟩
  go_loopw [6] (fun v wr => ∃ i : Nat, v = .int .i64 i ∧ i ≤ len ∧ Digs w w.heap.size n X (i * 5) wr) (fun v _ => len - (intOf v).toNat)
  case atStart => exact ⟨0, rfl, Nat.zero_le _, by simpa using D0⟩
  case round =>
    clear D0
    obtain ⟨i, rfl, hi, hD⟩ := hrel
    by_cases hlt : i < len
    · have c0 : wr.cell? ⟨bs, i, none⟩ = some (.int .u64 (X i)) := (hD.bel.cell (p := ⟨bs, i, none⟩) (HBS.out i hlt)).trans (HC.out i hlt)
      have hltI : (i : Int) < (len : Int) := by omega
      have hx := HX.out i
      have hD' : Digs w w.heap.size n X (i * 5 + 0) wr := hD
      clear hD
      go_wp2_with fail
      go_loopw [7, 8] (fun v u wz => ∃ k : Nat, u = .int .i64 k ∧ k ≤ 5 ∧ v = .int .u64 (Dec.dv (X i) k) ∧ Digs w w.heap.size n X (i * 5 + k) wz) (fun _ u _ => 5 - (intOf u).toNat)
      case atStart => exact ⟨0, rfl, by omega, rfl, hD'⟩
      case round =>
        clear hD' c0
        obtain ⟨k, rfl, hk, rfl, hD⟩ := hrel
        by_cases hk5 : k < 5
        · have hb := Dec.dv_nonneg hx.1 k
          have hdg := Dec.dg_at X i k hk5
          have hdv : Dec.dv (X i) (k + 1) = Dec.dv (X i) k / 10 := rfl
          generalize Dec.dv (X i) k = v at *
          have v1 := hD.row.cell (i := i * 5 + k) (by omega)
          have f1 := hD.row.frozen (i * 5 + k)
          rw [if_neg (by omega)] at v1
          have hD2 := digs_step hD (v % 10) hdg
          have HDV : Hid _ := hdv
          have hkI : (k : Int) < 5 := by omega
          have hin : (i : Int) * 5 + (k : Int) < ((n * 5 : Nat) : Int) := by omega
          clear hD hdg hdv
          go_wp2_with fail
          go_roundw
          case rel => exact ⟨k + 1, by go_num, by omega, by rw [HDV.out], hD2⟩
          case measure => simp [intOf]; omega
        · obtain rfl : k = 5 := by omega
          go_wp2_with fail
          go_roundw
          case rel => exact ⟨i + 1, by go_num, by omega, by rw [show (i + 1) * 5 = i * 5 + 5 by omega]; exact hD⟩
          case measure => simp [intOf]; omega
    · obtain rfl : i = len := by omega
      go_wp2_with fail
      go_ret
      refine ⟨rfl, hD.row.congr fun q _ => ?_, hD.bel, hD.size⟩
      by_cases e : q < i * 5
      · rw [if_pos e]
      · rw [if_neg e]
        have h0 : Dec.dg X q = 0 := by
          unfold Dec.dg
          rw [HZ.out (q / 5) (by omega)]
          have hb := Dec.dv_nonneg (Int.le_refl 0) (q % 5)
          omega
        rw [h0]
end Go.Proofs.Ybulkdmjo
