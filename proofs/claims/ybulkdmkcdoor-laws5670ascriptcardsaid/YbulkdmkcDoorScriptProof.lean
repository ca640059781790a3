/-
  The proof of 'Rows.LawS5670AScriptCardSaid': the row's statement (the walk: YbulkdmkcDoorC12), then the card by the given tie.
-/
import Derived.Test.YbulkdmkcDoorC12
import Derived.Test.YbulkdmkcDoorC13
import Derived.Test.YbulkdmkcDoorTie
import Derived.Test.YbulkdmkcDoorCards
import Derived.Deep.Matrix
import Derived.ProofKit
import Derived.SevenTiedAt
namespace Go.Proofs.YbulkdmkcDoor.Script
open Go Go.ChangeShapes Go.WideShapes Go.RowKit Go.Deep

theorem weightsAll_mem {H : Type} {P : Program} {e : TypeId} : ∀ {l : List (DataW H)} {d : DataW H}, d ∈ l → ∀ n ∈ d.weights P e, n ∈ DataW.weightsAll P e l
  | d' :: r, d, hd, n, hn => by
    simp only [DataW.weightsAll, List.mem_append]
    rcases List.mem_cons.1 hd with rfl | h
    · exact Or.inl hn
    · exact Or.inr (weightsAll_mem h n hn)

/-- The form's own reach, of a row inside a slice of slices. -/
theorem sized_inner {H : Type} {P : Program} {ts : List TypeId} {ds : List (DataW H)} (h : (DataW.weightsEach P ts ds).all (· ≤ reachBytes) = true) {j : Nat} {t e q : TypeId} {elems spare e' sp' : List (DataW H)}
    (ht : ts[j]? = some t) (hd : ds[j]? = some (.slice elems spare)) (hu : P.underlying t = some (.slice e)) (hu2 : P.underlying e = some (.slice q)) (hx : DataW.slice e' sp' ∈ elems) : (e'.length + sp'.length) * P.bytesOf q ≤ reachBytes := by
  refine of_decide_eq_true (List.all_eq_true.1 h _ (DataW.weights_mem_each ht hd _ ?_))
  simp only [DataW.weights, hu, List.mem_cons, List.mem_append]
  exact Or.inr (Or.inl (weightsAll_mem hx _ (by simp [DataW.weights, hu2])))

set_option maxRecDepth 100000 in
set_option maxHeartbeats 1000000 in
theorem lifted (os : Os) (started : os.Started) (H : Type) (enc : TypeId × Value → H) :
    ReturnsInHanded {} Ybad.checked os 4 .any (fun w args => (Rows.lawS5670AScriptSpec.pre enc Ybad.prog Ybad.f4 [] false w args ∧ laidMetH Ybad.prog [("bytes.ErrTooLarge", Rows.laid_bytes_ErrTooLarge)] w) ∧ sizedMet enc Ybad.prog Ybad.f4 (OpenSpec.ofChange Rows.lawS5670AScriptSpec) false w args)
      (Rows.lawS5670AScriptSpec.post enc Ybad.prog Ybad.f4 false true false false) := by
  refine returnsInHanded_of_change_and (C := Ybad.checked) (X := fun w _ => laidMetH Ybad.prog [("bytes.ErrTooLarge", Rows.laid_bytes_ErrTooLarge)] w) (fun _ _ _ hh h => h.of_heap hh) own started (by kernel_rfl) Ybad.func4
    (ChangeSpec.witness_at (enc := enc) (C := Ybad.checked) (os := os) (X := fun w _ => laidMetH Ybad.prog [("bytes.ErrTooLarge", Rows.laid_bytes_ErrTooLarge)] w) false _ #[.slice none 0 0] 8 ?_ ?_ ?_ ?_ ?_ ?_ (laid_met os _)) ?_
  · rfl
  · kernel_rfl
  · kernel_rfl
  · kernel_rfl
  · kernel_rfl
  · kernel_rfl
  intro W base args ds gs before hval0 hW _ hsz0 _ _
  have hsz : (DataW.weightsEach Ybad.prog (Ybad.f4.params.toList ++ Rows.lawS5670AScriptSpec.plain.varTypes Ybad.prog) (ds ++ gs)).all (· ≤ reachBytes) = true := hsz0
  have hval : ∀ (j : Nat) t v, Ybad.f4.params[j]? = some t → args[j]? = some v → Value.okWide Ybad.prog W .any base t v := hval0
  have hW' := hW
  obtain ⟨p, q, hA0, hV, rfl, hfz, hnd⟩ := hW
  have hA : DataW.TrodAll enc Ybad.prog W 0 (fun _ => true) true Ybad.f4.params.toList args.toList ds p := hA0
  rw [Ybad.params4] at hA hval hsz
  obtain ⟨v0, d0, rfl, rfl, h0⟩ := trodAll_one hA
  obtain ⟨rfl, rfl⟩ := trodVars_none hV
  obtain ⟨a0, len0, cap0, rfl⟩ := okWide_slice Ybad.underlying46 (hval 0 46 v0 rfl rfl)
  have k0 := h0
  have lt0 : ∀ x ∈ p, x.block < W.heap.size := by obtain ⟨m, hm⟩ := k0; exact DataW.trod_lt m _ _ _ hm
  simp only [List.append_nil] at hsz
  obtain ⟨b0, o0, A, C, D, hn, ha, hin, hlen⟩ : ∃ (b0 o0 : Nat) (A : Nat → Option Addr) (C : Nat → Nat) (D : Nat → List UInt8), len0 ≤ maxLen ∧ (0 < len0 → a0 = some ⟨b0, o0, none⟩) ∧ Ins W.heap.size b0 o0 len0 A C D W ∧ ∀ i, i < len0 → (D i).length ≤ 281474976710656 := by
    obtain ⟨fuel, hf⟩ := h0
    rcases open_int_rows Ybad.underlying46 Ybad.underlying22 Ybad.underlying5 (by kernel_rfl) (by kernel_rfl) hf with ⟨hcs, _⟩ | ⟨a, len, cap, A, L, C, Z, hcs, _, hl, hm, hx, hrows⟩
    · simp [Value.cells] at hcs
      obtain ⟨rfl, rfl, rfl⟩ := hcs
      have no : ∀ {i : Nat}, ¬ i < 0 := fun h => absurd h (by omega)
      exact ⟨0, 0, fun _ => none, fun _ => 0, fun _ => [], Nat.zero_le _, fun h => absurd h no, ⟨fun i hi => absurd hi no, fun i hi => absurd hi no, fun i hi => absurd hi no, fun i hi => absurd hi no, fun i hi => absurd hi no⟩, fun i hi => absurd hi no⟩
    · simp [Value.cells] at hcs
      obtain ⟨rfl, rfl, rfl⟩ := hcs
      simp only [Prod.mk.injEq] at hx
      obtain ⟨rfl, _⟩ := hx
      have hLb : ∀ r, r < len0 → L r ≤ 281474976710656 := fun r hr => by
        obtain ⟨_, h1, _, h3, _, h5, _⟩ := hrows r (by omega)
        cases hA : A r with
        | none => have := h5 hA; omega
        | some a' =>
          have hin := sized_inner hsz (j := 0) (t := 46) (e := 22) (q := 5) rfl rfl Ybad.underlying46 Ybad.underlying22
            (e' := lits .u8 ((Z r).take (L r))) (sp' := lits .u8 ((Z r).drop (L r)))
            (List.mem_map.2 ⟨r, List.mem_range.2 hr, by simp [intRow, hA]⟩)
          simp only [lits, List.length_map, List.length_take, List.length_drop, bytes5, reach_eq] at hin
          omega
      have hD : ∀ r, r < len0 → (bytesAt (Z r) (L r)).length = L r := fun r hr => by
        obtain ⟨_, h1, _, h3, _⟩ := hrows r (by omega)
        exact bytesAt_len _ _ (by omega)
      have hBs : ∀ r, r < len0 → Bs W (A r) (bytesAt (Z r) (L r)) := fun r hr => by
        obtain ⟨_, h1, _, h3, h4, h5, h6⟩ := hrows r (by omega)
        cases hA : A r with
        | none =>
          have := h5 hA
          intro hne
          exact absurd (List.eq_nil_of_length_eq_zero (by rw [hD r hr]; omega)) hne
        | some a' => exact bs_of (fun c hc => (h6 a' hA).2 c (by omega)) h4 (by omega)
      obtain ⟨gb, go, gs⟩ := a
      have hgs : 0 < len0 → gs = none := fun h => by simpa [Addr.add] using World.cell?_spot (hrows 0 (by omega)).1
      have hrow : ∀ r, r < len0 → W.cell? ⟨gb, go + r, none⟩ = some (.slice (A r) (L r) (C r)) := fun r hr => by
        obtain rfl := hgs (by omega)
        have := (hrows r (by omega)).1
        rwa [Addr.add_lit] at this
      refine ⟨gb, go, A, C, fun r => bytesAt (Z r) (L r), by omega, fun h => by rw [hgs h], ⟨fun i hi => by rw [hD i hi]; exact hrow i hi, hBs, fun i hi => World.block_lt_of_cell? W _ (hrow i hi), fun i hi a ea hne => ?_, fun i hi ea => ?_⟩, fun i hi => by rw [hD i hi]; exact hLb i hi⟩
      · obtain ⟨a', ea', hca⟩ := hBs i hi hne
        obtain rfl : a = a' := Option.some.inj (ea.symm.trans ea')
        have hl0 : 0 < (Lib.byteCells (bytesAt (Z i) (L i))).length := by
          rw [byteCells_len]
          exact List.length_pos_iff.2 hne
        have := World.block_lt_of_cell? W _ (hca 0 _ (List.getElem?_eq_getElem hl0))
        rwa [Lib.block_add] at this
      · obtain ⟨_, h1, _, _, _, h5, _⟩ := hrows i (by omega)
        have := h5 ea
        exact ⟨List.eq_nil_of_length_eq_zero (by rw [hD i hi]; omega), this⟩
  clear hA0 hval0
  refine (script_walk a0 len0 cap0 b0 o0 A C D W hn ha hin hlen).mono fun e W' ⟨he, bel⟩ => ?_
  subst he
  exact ⟨_, rfl, _, _, _, [], _, [], hW', trodAll_mk1 (shut_bool Ybad.underlying4 _), trodAll_mk1 (Below.trod laidOut (by kernel_rfl) (of_decide_eq_true (by kernel_rfl)) k0 bel lt0), rfl, bel.frame _, fun h => by cases h⟩

theorem over : Rows.LawS5670AScriptSaid :=
  OpenClaim.holds_of_wide 4 Ybad.f4 rfl rfl rfl rfl rfl rfl rfl ⟨rfl, rfl, rfl, rfl, rfl⟩ rfl rfl rfl rfl rfl (by kernel_rfl) Ybad.func4 (by kernel_rfl)
    (of_decide_eq_true (by kernel_rfl)) (by unfold Func.isWrapper; first | (rw [if_pos (by decide +kernel)]; kernel_rfl) | (rw [if_neg (by decide +kernel)]; exact ⟨rfl, rfl⟩))
    (fun os started H enc _ => lifted os started H enc)

/-- The card. -/
theorem proved : Rows.LawS5670AScriptCardSaid :=
  Claim7.holds_tied_plain_at .later [] [.sentinel] true (true, "6e590e2f731917aee0dc973ba52ba39be87f626ff5ac6ffccf8702802e72b5cc") true
    over (fun _ h => by cases h) (by kernel_rfl) (fun _ h => by cases h) lawS5670AScript_row_tie rfl ⟨rfl, rfl⟩ (by kernel_rfl) rfl
    (fun f fn hf hfn => by
      obtain rfl : f = 4 := Option.some.inj ((show Ybad.prog.funcNamed Rows.lawS5670AScriptRow.func = some 4 by kernel_rfl).symm.trans hf) |>.symm
      obtain rfl : fn = Ybad.f4 := (Option.some.inj (Ybad.func4.symm.trans hfn)).symm
      exact ⟨by kernel_rfl, fun j t ht => by
        rw [Ybad.params4] at ht
        have h3 : t = 46 := by
          rcases j with _ | j
          · simpa using ht.symm
          · simp at ht
        subst h3
        exact (show Ybad.prog.wantsStandIn 46 = false by kernel_rfl)⟩)
    (by kernel_rfl)
#print axioms proved
end Go.Proofs.YbulkdmkcDoor.Script
