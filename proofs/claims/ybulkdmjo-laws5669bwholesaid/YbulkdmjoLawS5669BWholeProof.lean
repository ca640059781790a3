/-
  The proof of 'Rows.LawS5669BWholeSaid': the given shell at this function's number and types, its walk out of YbulkdmjoB5 and YbulkdmjoB6.
-/
import Derived.Test.YbulkdmjoRows
import Derived.WalkKit
import Derived.ProofKit
import Derived.OpenShut
import Derived.ShutString
import Derived.ChangeOld
import Derived.Below
import Derived.Test.YbulkdmjoB6
namespace Go.Proofs.Ybulkdmjo.lawS5669BWhole
open Go.ChangeShapes Go.WideShapes Go.ChangeAt Go.RowKit
open Go.ChangeMaps (open_string shut_string)
set_option linter.unusedVariables false

theorem own : ownKnob Yba.prog.godebug = none := by kernel_rfl
theorem laidOut : laidOutB Yba.prog = true := by kernel_rfl

/-- WHAT THE WALK IS TOLD OF A SLICE OF INTEGERS THAT CAME IN: it is nil; or it leads to a row of 'cap' cells, the numbers 'zs' (the first 'len' are its elements, the rest its spare room), each fitting its kind. -/
def IsRow (k : IntKind) (w : World) (a : Option Addr) (len cap : Nat) (zs : List Int) : Prop :=
  (a = none ∧ len = 0 ∧ cap = 0 ∧ zs = []) ∨
  ∃ x, a = some x ∧ len ≤ cap ∧ cap ≤ maxLen ∧ zs.length = cap ∧ (∀ i, i < zs.length → w.cell? (x.add i) = some (.int k (zs.getD i 0))) ∧ ∀ n ∈ zs, (Lit.int k n).wf = true

theorem row_at {w : World} {a : Option Addr} {len cap : Nat} {zs : List Int} (h : IsRow .u64 w a len cap zs) :
    ∃ b o : Nat, (0 < len → a = some ⟨b, o, none⟩) ∧ (∀ i, i < len → w.cell? ⟨b, o + i, none⟩ = some (.int .u64 (zs.getD i 0))) ∧ (∀ i, i < len → 0 ≤ zs.getD i 0) := by
  rcases h with ⟨rfl, rfl, rfl, rfl⟩ | ⟨x, rfl, hl, hm, hz, hcell, hwf⟩
  · exact ⟨0, 0, fun h => absurd h (by omega), fun i hi => absurd hi (by omega), fun i hi => absurd hi (by omega)⟩
  · have hb : ∀ i, i < len → 0 ≤ zs.getD i 0 := by
      intro i hi
      have hmem : zs.getD i 0 ∈ zs := by
        rw [List.getD_eq_getElem?_getD, List.getElem?_eq_getElem (by omega)]
        simp
      have := bounds_u64 (hwf _ hmem)
      omega
    by_cases h0 : 0 < len
    · obtain ⟨b, off, rfl, hc⟩ := ints_at hcell (by omega)
      exact ⟨b, off, fun _ => rfl, fun i hi => hc i (by omega), hb⟩
    · exact ⟨0, 0, fun h => absurd h h0, fun i hi => absurd hi (by omega), hb⟩

set_option maxRecDepth 100000 in
set_option maxHeartbeats 1000000 in
theorem walk_big (a0 : Option Addr) (len0 cap0 : Nat) (a1 : Option Addr) (len1 cap1 : Nat) (w : World) (h : 1048576 < len0) :
    Calls Yba.prog 3 #[.slice a0 len0 cap0, .slice a1 len1 cap1] w fun e w' => e = .returned (.bool true) ∧ Below w.heap.size w w' := by
  have hd0 : decide ((1048576 : Int) < (len0 : Int)) = true := by simp; omega
  go_enter Yba.func3, Yba.ntmps3
  go_wp2_with fail
  go_ret
  exact ⟨rfl, Below.refl _ _⟩

set_option maxRecDepth 100000 in
set_option maxHeartbeats 1000000 in
theorem walk_big2 (a0 : Option Addr) (len0 cap0 : Nat) (a1 : Option Addr) (len1 cap1 : Nat) (w : World) (h0 : ¬ 1048576 < len0) (h : 1048576 < len1) :
    Calls Yba.prog 3 #[.slice a0 len0 cap0, .slice a1 len1 cap1] w fun e w' => e = .returned (.bool true) ∧ Below w.heap.size w w' := by
  have hd0 : decide ((1048576 : Int) < (len0 : Int)) = false := by simp; omega
  have hd1 : decide ((1048576 : Int) < (len1 : Int)) = true := by simp; omega
  go_enter Yba.func3, Yba.ntmps3
  go_wp2_with fail
  go_ret
  exact ⟨rfl, Below.refl _ _⟩

theorem limbs_of (z : List Int) (n : Nat) (_h : ∀ i, i < n → 0 ≤ z.getD i 0) : Dec.Limbs (fun i => if i < n then z.getD i 0 % 100000 else 0) := by
  intro i
  by_cases e : i < n
  · simp only [if_pos e]; omega
  · simp only [if_neg e]; omega

/-! ### STEP 1: THE WALK: the Go text returns true, and writes nothing that was there. -/
theorem walk (a0 : Option Addr) (len0 cap0 : Nat) (z0 : List Int) (a1 : Option Addr) (len1 cap1 : Nat) (z1 : List Int) (w : World) (w0 : IsRow .u64 w a0 len0 cap0 z0) (w1 : IsRow .u64 w a1 len1 cap1 z1) :
    Calls Yba.prog 3 #[.slice a0 len0 cap0, .slice a1 len1 cap1] w fun e w' => e = .returned (.bool true) ∧ Below w.heap.size w w' := by
  obtain ⟨b0, o0, e0, c0, m0⟩ := row_at w0
  obtain ⟨b1, o1, e1, c1, m1⟩ := row_at w1
  by_cases h0 : 1048576 < len0
  · exact walk_big a0 len0 cap0 a1 len1 cap1 w h0
  by_cases h1 : 1048576 < len1
  · exact walk_big2 a0 len0 cap0 a1 len1 cap1 w h0 h1
  by_cases hab : len0 < len1
  · exact walk_lt a0 len0 cap0 a1 len1 cap1 w (by omega) (by omega) hab b0 o0 b1 o1
      (fun i => if i < len0 then z0.getD i 0 % 100000 else 0) (fun i => if i < len1 then z1.getD i 0 % 100000 else 0) (fun i => z0.getD i 0) (fun i => z1.getD i 0)
      (limbs_of z0 len0 m0) (limbs_of z1 len1 m1) (fun i hi => if_neg (by omega)) (fun i hi => if_neg (by omega))
      (fun i hi => ⟨m0 i hi, if_pos hi⟩) (fun i hi => ⟨m1 i hi, if_pos hi⟩) e0 e1 c0 c1
  · exact walk_ge a0 len0 cap0 a1 len1 cap1 w (by omega) (by omega) (by omega) b0 o0 b1 o1
      (fun i => if i < len0 then z0.getD i 0 % 100000 else 0) (fun i => if i < len1 then z1.getD i 0 % 100000 else 0) (fun i => z0.getD i 0) (fun i => z1.getD i 0)
      (limbs_of z0 len0 m0) (limbs_of z1 len1 m1) (fun i hi => if_neg (by omega)) (fun i hi => if_neg (by omega))
      (fun i hi => ⟨m0 i hi, if_pos hi⟩) (fun i hi => ⟨m1 i hi, if_pos hi⟩) e0 e1 c0 c1

/-! ### THE ROW's STEP: WRITTEN OUT: LEAVE IT -/
set_option maxRecDepth 100000 in
theorem lifted (os : Os) (started : os.Started) (H : Type) (enc : TypeId × Value → H) :
    ReturnsInHanded {} Yba.checked os 3 .any (Rows.lawS5669BWholeSpec.pre6 enc Yba.prog Yba.f3 Rows.lawS5669BWholeRow.domain false) (Rows.lawS5669BWholeSpec.post enc Yba.prog Yba.f3 false true false false) := by
  refine returnsInHanded_of_change (C := Yba.checked) own started (by kernel_rfl) Yba.func3
    (ChangeSpec.witness6 (enc := enc) (C := Yba.checked) false ⟨#[], #[.slice none 0 0, .slice none 0 0], []⟩ 8 (by kernel_rfl) (by kernel_rfl) (by kernel_rfl) (by kernel_rfl)) ?_
  intro W base args ds gs before hval0 hW hcnd _
  have hval : ∀ (j : Nat) t v, Yba.f3.params[j]? = some t → args[j]? = some v → Value.okWide Yba.prog W .any base t v := hval0
  have hW' := hW
  obtain ⟨p, q, hA0, hV, rfl, hfz, hnd⟩ := hW
  have hA : DataW.TrodAll enc Yba.prog W 0 (fun _ => true) true Yba.f3.params.toList args.toList ds p := hA0
  rw [Yba.params3] at hA hval
  obtain ⟨v0, vs0, d0, ds0, p0, q0, hargs, rfl, rfl, h0, r0⟩ := trodAll_cons hA
  obtain ⟨v1, vs1, d1, ds1, p1, q1, rfl, rfl, rfl, h1, r1⟩ := trodAll_cons r0
  obtain ⟨rfl, rfl, rfl⟩ := trodAll_nil r1
  obtain rfl : args = #[v0, v1] := by cases args; simp_all
  obtain ⟨rfl, rfl⟩ := trodVars_none hV
  obtain ⟨a0, len0, cap0, rfl⟩ := okWide_slice Yba.underlying22 (hval 0 22 v0 rfl rfl)
  have k0 := h0
  have lt0 : ∀ x ∈ p0, x.block < W.heap.size := by obtain ⟨m, hm⟩ := k0; exact DataW.trod_lt m _ _ _ hm
  obtain ⟨z0, w0⟩ : ∃ zs, IsRow .u64 W a0 len0 cap0 zs := by
    obtain ⟨fuel, hf⟩ := h0
    rcases open_ints Yba.underlying22 Yba.underlying24 (by kernel_rfl) hf with ⟨hcs, _⟩ | ⟨x, l, c, zs, hcs, _, hl, hm, hz, _, hcell, hwz⟩
    · simp [Value.cells] at hcs
      obtain ⟨rfl, rfl, rfl⟩ := hcs
      exact ⟨[], .inl ⟨rfl, rfl, rfl, rfl⟩⟩
    · simp [Value.cells] at hcs
      obtain ⟨rfl, rfl, rfl⟩ := hcs
      exact ⟨zs, .inr ⟨_, rfl, hl, hm, by simpa using hz, hcell, hwz⟩⟩
  obtain ⟨a1, len1, cap1, rfl⟩ := okWide_slice Yba.underlying22 (hval 1 22 v1 rfl rfl)
  have k1 := h1
  have lt1 : ∀ x ∈ p1, x.block < W.heap.size := by obtain ⟨m, hm⟩ := k1; exact DataW.trod_lt m _ _ _ hm
  obtain ⟨z1, w1⟩ : ∃ zs, IsRow .u64 W a1 len1 cap1 zs := by
    obtain ⟨fuel, hf⟩ := h1
    rcases open_ints Yba.underlying22 Yba.underlying24 (by kernel_rfl) hf with ⟨hcs, _⟩ | ⟨x, l, c, zs, hcs, _, hl, hm, hz, _, hcell, hwz⟩
    · simp [Value.cells] at hcs
      obtain ⟨rfl, rfl, rfl⟩ := hcs
      exact ⟨[], .inl ⟨rfl, rfl, rfl, rfl⟩⟩
    · simp [Value.cells] at hcs
      obtain ⟨rfl, rfl, rfl⟩ := hcs
      exact ⟨zs, .inr ⟨_, rfl, hl, hm, by simpa using hz, hcell, hwz⟩⟩
  clear hA0 hval0
  refine (walk a0 len0 cap0 z0 a1 len1 cap1 z1 W w0 w1).mono fun e W' ⟨he, bel⟩ => ?_
  subst he
  exact ⟨_, rfl, _, _, _, [], _, [], hW', trodAll_mk1 (shut_bool Yba.underlying4 _), (trodAll_cons_mk (Below.trod laidOut (by kernel_rfl) (of_decide_eq_true (by kernel_rfl)) k0 bel lt0) (trodAll_cons_mk (Below.trod laidOut (by kernel_rfl) (of_decide_eq_true (by kernel_rfl)) k1 bel lt1) trodAll_mk0)), rfl, bel.frame _, fun h => by cases h⟩

theorem over : Rows.lawS5669BWholeRow.holds Yba.pinned (OpenSpec.ofChange Rows.lawS5669BWholeSpec) :=
  OpenClaim.holds_of_wide 3 Yba.f3 rfl rfl rfl rfl rfl rfl rfl ⟨rfl, rfl, rfl, rfl, rfl⟩ rfl rfl rfl rfl rfl (by kernel_rfl) Yba.func3 (by kernel_rfl)
    (of_decide_eq_true (by kernel_rfl)) (by unfold Func.isWrapper; first | (rw [if_pos (by decide +kernel)]; kernel_rfl) | (rw [if_neg (by decide +kernel)]; exact ⟨rfl, rfl⟩))
    (fun os started H enc _ => lifted os started H enc)

/-- ████ THE STATEMENT ████ -/
theorem proved : Rows.LawS5669BWholeSaid := over
#print axioms proved
end Go.Proofs.Ybulkdmjo.lawS5669BWhole
