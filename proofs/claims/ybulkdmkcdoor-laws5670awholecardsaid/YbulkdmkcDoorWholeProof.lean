/-
  The proof of 'Rows.LawS5670AWholeCardSaid': the row's statement (the walk: YbulkdmkcDoorW3), then the card by the given tie.
-/
import Derived.Test.YbulkdmkcDoorW3
import Derived.Test.YbulkdmkcDoorC13
import Derived.Test.YbulkdmkcDoorTie
import Derived.Test.YbulkdmkcDoorCards
import Derived.ProofKit
import Derived.SevenTiedAt
namespace Go.Proofs.YbulkdmkcDoor.Whole
open Go Go.ChangeShapes Go.WideShapes Go.RowKit

/-- What is told of a byte slice that came in. -/
theorem open_bytes {H : Type} {enc : TypeId × Value → H} {W : World} {a0 : Option Addr} {len0 cap0 : Nat} {d0 : DataW H} {p0 : List MemPlace}
    (h0 : DataW.Trod enc Ybad.prog W 0 (fun _ => true) true 22 (.slice a0 len0 cap0) d0 p0) (hsz : ∀ elems spare : List (DataW H), d0 = .slice elems spare → elems.length + spare.length ≤ 140737488351232) :
    ∃ l : List UInt8, l.length = len0 ∧ Bs W a0 l ∧ (a0 = none → l = [] ∧ cap0 = 0) ∧ l.length ≤ 281474976710656 := by
  obtain ⟨fuel, hf⟩ := h0
  rcases open_ints Ybad.underlying22 Ybad.underlying5 (by kernel_rfl) hf with ⟨hcs, _⟩ | ⟨x, l, c, zs, hcs, _, hl, hm, hz, hx, hcell, hwz⟩
  · simp [Value.cells] at hcs
    obtain ⟨rfl, rfl, rfl⟩ := hcs
    exact ⟨[], rfl, fun h => absurd rfl h, fun _ => ⟨rfl, rfl⟩, Nat.zero_le _⟩
  · simp [Value.cells] at hcs
    obtain ⟨rfl, rfl, rfl⟩ := hcs
    have hz' : zs.length = cap0 := by simpa using hz
    have hlen : (bytesAt zs len0).length = len0 := bytesAt_len _ _ (by omega)
    refine ⟨bytesAt zs len0, hlen, bs_of (fun c hc => hcell c (by omega)) hwz (by omega), (fun h => by cases h), ?_⟩
    simp only [Prod.mk.injEq] at hx
    have := hsz _ _ hx.1
    simp only [lits, List.length_map, List.length_take, List.length_drop] at this
    omega

set_option maxRecDepth 100000 in
set_option maxHeartbeats 1000000 in
theorem lifted (os : Os) (started : os.Started) (H : Type) (enc : TypeId × Value → H) :
    ReturnsInHanded {} Ybad.checked os 3 .any (fun w args => (Rows.lawS5670AWholeSpec.pre enc Ybad.prog Ybad.f3 [] false w args ∧ laidMetH Ybad.prog [("bytes.ErrTooLarge", Rows.laid_bytes_ErrTooLarge)] w) ∧ sizedMet enc Ybad.prog Ybad.f3 (OpenSpec.ofChange Rows.lawS5670AWholeSpec) false w args)
      (Rows.lawS5670AWholeSpec.post enc Ybad.prog Ybad.f3 false true false false) := by
  refine returnsInHanded_of_change_and (C := Ybad.checked) (X := fun w _ => laidMetH Ybad.prog [("bytes.ErrTooLarge", Rows.laid_bytes_ErrTooLarge)] w) (fun _ _ _ hh h => h.of_heap hh) own started (by kernel_rfl) Ybad.func3
    (ChangeSpec.witness_at (enc := enc) (C := Ybad.checked) (os := os) (X := fun w _ => laidMetH Ybad.prog [("bytes.ErrTooLarge", Rows.laid_bytes_ErrTooLarge)] w) false _ #[.slice none 0 0, .slice none 0 0] 8 ?_ ?_ ?_ ?_ ?_ ?_ (laid_met os _)) ?_
  · rfl
  · kernel_rfl
  · kernel_rfl
  · kernel_rfl
  · kernel_rfl
  · kernel_rfl
  intro W base args ds gs before hval0 hW _ hsz0 _ _
  have hsz : (DataW.weightsEach Ybad.prog (Ybad.f3.params.toList ++ Rows.lawS5670AWholeSpec.plain.varTypes Ybad.prog) (ds ++ gs)).all (· ≤ reachBytes) = true := hsz0
  have hval : ∀ (j : Nat) t v, Ybad.f3.params[j]? = some t → args[j]? = some v → Value.okWide Ybad.prog W .any base t v := hval0
  have hW' := hW
  obtain ⟨p, q, hA0, hV, rfl, hfz, hnd⟩ := hW
  have hA : DataW.TrodAll enc Ybad.prog W 0 (fun _ => true) true Ybad.f3.params.toList args.toList ds p := hA0
  rw [Ybad.params3] at hA hval hsz
  obtain ⟨v0, vs0, d0, ds0, p0, q0, hargs, rfl, rfl, h0, r0⟩ := trodAll_cons hA
  obtain ⟨v1, vs1, d1, ds1, p1, q1, rfl, rfl, rfl, h1, r1⟩ := trodAll_cons r0
  obtain ⟨rfl, rfl, rfl⟩ := trodAll_nil r1
  obtain rfl : args = #[v0, v1] := by cases args; simp_all
  obtain ⟨rfl, rfl⟩ := trodVars_none hV
  simp only [List.append_nil] at hsz
  obtain ⟨a0, len0, cap0, rfl⟩ := okWide_slice Ybad.underlying22 (hval 0 22 v0 rfl rfl)
  have k0 := h0
  have lt0 : ∀ x ∈ p0, x.block < W.heap.size := by obtain ⟨m, hm⟩ := k0; exact DataW.trod_lt m _ _ _ hm
  obtain ⟨a1, len1, cap1, rfl⟩ := okWide_slice Ybad.underlying22 (hval 1 22 v1 rfl rfl)
  have k1 := h1
  have lt1 : ∀ x ∈ p1, x.block < W.heap.size := by obtain ⟨m, hm⟩ := k1; exact DataW.trod_lt m _ _ _ hm
  obtain ⟨l1, e1, b1, n1, m1⟩ := open_bytes h0 (fun elems spare e => by
    have := sized_slice hsz (j := 0) (t := 22) (e := 5) rfl (by rw [e]; rfl) Ybad.underlying22
    simpa [bytes5, reach_eq] using this)
  obtain ⟨l2, e2, b2, n2, m2⟩ := open_bytes h1 (fun elems spare e => by
    have := sized_slice hsz (j := 1) (t := 22) (e := 5) rfl (by rw [e]; rfl) Ybad.underlying22
    simpa [bytes5, reach_eq] using this)
  clear hA0 hval0
  subst e1
  subst e2
  refine (whole_walk a0 a1 cap0 cap1 l1 l2 W b1 b2 n2 m1 m2).mono fun e W' ⟨he, bel⟩ => ?_
  subst he
  exact ⟨_, rfl, _, _, _, [], _, [], hW', trodAll_mk1 (shut_bool Ybad.underlying4 _), (trodAll_cons_mk (Below.trod laidOut (by kernel_rfl) (of_decide_eq_true (by kernel_rfl)) k0 bel lt0) (trodAll_cons_mk (Below.trod laidOut (by kernel_rfl) (of_decide_eq_true (by kernel_rfl)) k1 bel lt1) trodAll_mk0)), rfl, bel.frame _, fun h => by cases h⟩

theorem over : Rows.LawS5670AWholeSaid :=
  OpenClaim.holds_of_wide 3 Ybad.f3 rfl rfl rfl rfl rfl rfl rfl ⟨rfl, rfl, rfl, rfl, rfl⟩ rfl rfl rfl rfl rfl (by kernel_rfl) Ybad.func3 (by kernel_rfl)
    (of_decide_eq_true (by kernel_rfl)) (by unfold Func.isWrapper; first | (rw [if_pos (by decide +kernel)]; kernel_rfl) | (rw [if_neg (by decide +kernel)]; exact ⟨rfl, rfl⟩))
    (fun os started H enc _ => lifted os started H enc)

/-- The card. -/
theorem proved : Rows.LawS5670AWholeCardSaid :=
  Claim7.holds_tied_plain_at .later [] [.sentinel] true (true, "6e590e2f731917aee0dc973ba52ba39be87f626ff5ac6ffccf8702802e72b5cc") true
    over (fun _ h => by cases h) (by kernel_rfl) (fun _ h => by cases h) lawS5670AWhole_row_tie rfl ⟨rfl, rfl⟩ (by kernel_rfl) rfl
    (fun f fn hf hfn => by
      obtain rfl : f = 3 := Option.some.inj ((show Ybad.prog.funcNamed Rows.lawS5670AWholeRow.func = some 3 by kernel_rfl).symm.trans hf) |>.symm
      obtain rfl : fn = Ybad.f3 := (Option.some.inj (Ybad.func3.symm.trans hfn)).symm
      exact ⟨by kernel_rfl, fun j t ht => by
        rw [Ybad.params3] at ht
        have h3 : t = 22 := by
          rcases j with _ | _ | j
          · simpa using ht.symm
          · simpa using ht.symm
          · simp at ht
        subst h3
        exact (show Ybad.prog.wantsStandIn 22 = false by kernel_rfl)⟩)
    (by kernel_rfl)
#print axioms proved
end Go.Proofs.YbulkdmkcDoor.Whole
