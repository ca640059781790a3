import Derived.Test.YbulkdmkcDoorC1
namespace Go.Proofs.YbulkdmkcDoor
open Go Go.RowKit

/-- What Write leaves alone: every old block but the struct's and the old row. -/
structure Fr (w w' : World) (b : Nat) (own : Option Nat) : Prop where
  os : w'.os = w.os
  tape : w'.tape = w.tape
  output : w'.output = w.output
  size : w.heap.size ≤ w'.heap.size
  block : ∀ k, k < w.heap.size → k ≠ b → some k ≠ own → w'.heap[k]? = w.heap[k]?

theorem Fr.refl (w : World) (b : Nat) (own : Option Nat) : Fr w w b own := ⟨rfl, rfl, rfl, Nat.le_refl _, fun _ _ _ _ => rfl⟩
theorem Fr.of_grown {w w' : World} {b : Nat} {own : Option Nat} (h : w.grownBy w' (some b)) : Fr w w' b own := ⟨h.os, h.tape, h.output, h.size, fun k hk h1 _ => h.block k hk (fun e => h1 (Option.some.inj e))⟩
theorem Fr.trans {w w' w'' : World} {b : Nat} {own : Option Nat} (h : Fr w w' b own) (k : Fr w' w'' b own) : Fr w w'' b own :=
  ⟨k.os.trans h.os, k.tape.trans h.tape, k.output.trans h.output, Nat.le_trans h.size k.size, fun i hi h1 h2 => (k.block i (Nat.lt_of_lt_of_le hi h.size) h1 h2).trans (h.block i hi h1 h2)⟩
theorem Fr.setRow {w : World} {b g : Nat} (c : Array Value) : Fr w (w.setRow g c) b (some g) := ⟨rfl, rfl, rfl, by simp, fun k _ _ h2 => setRow_other w g k c (fun e => h2 (by rw [e]))⟩
theorem Fr.setRow_new {w w1 : World} {b g : Nat} {own : Option Nat} (h : Fr w w1 b own) (hg : w.heap.size ≤ g) (c : Array Value) : Fr w (w1.setRow g c) b own :=
  ⟨h.os, h.tape, h.output, by have := h.size; simpa using this, fun k hk h1 h2 => (setRow_other w1 g k c (by omega)).trans (h.block k hk h1 h2)⟩
theorem Fr.below {w w' : World} {b B : Nat} {own : Option Nat} (h : Fr w w' b own) (hB : B ≤ w.heap.size) (hb : B ≤ b) (ho : ∀ g, own = some g → B ≤ g) : Below B w w' :=
  ⟨h.os, h.tape, h.output, h.size, fun k hk => h.block k (by omega) (by omega) (fun e => by have := ho k e.symm; omega)⟩

/-- The row that Write leaves. -/
theorem row_written {w : World} {b q T : Nat} {R : Nat → Option Value} {lr : Int} {g cap l n : Nat} {cur : Array Value} {bs cs : List Value}
    (h3 : LibA.Three w b q T R (.slice (some ⟨g, 0, none⟩) (l + n) cap) (.int .i64 0) (.int .i8 lr)) (hg : w.heap[g]? = some (.cells cur 5 (0, 0))) (hl : bs.length = l) (hn : cs.length = n)
    (hcap : l + n ≤ cap) (hcm : cap ≤ maxLen) (hcs : cur.size = cap) (htk : cur.toList.take l = bs) (hgb : g ≠ b) :
    Buf (w.setRow g (cur.toList.take l ++ cs ++ cur.toList.drop (l + cs.length)).toArray) b q T R (bs ++ cs) (some g) := by
  have hlen : (cur.toList.take l ++ cs ++ cur.toList.drop (l + cs.length)).toArray.size = cap := by
    simp only [List.size_toArray, List.length_append, List.length_take, List.length_drop, Array.length_toList]; omega
  refine ⟨lr, .inr ⟨g, cap, _, rfl, ?_, setRow_heap w g cur _ 5 (0, 0) hg, by simp; omega, hcm, hlen, ?_, hgb⟩⟩
  · rw [List.length_append, hl, hn]
    exact h3.of_heap (setRow_other _ _ _ _ (Ne.symm hgb))
  · rw [List.toList_toArray, htk]
    have : (bs ++ cs).length = (bs ++ cs).length := rfl
    exact List.take_left' rfl

set_option maxHeartbeats 4000000 in
set_option maxRecDepth 100000 in
/-- (*bytes.Buffer).Write of no byte, whatever the slice's address. -/
theorem write_none (b q T : Nat) (R : Nat → Option Value) (bs : List Value) (own : Option Nat) (ao : Option Addr) (c : Nat) (w : World) (h : Buf w b q T R bs own) :
    Calls Ybad.prog 7 #[.pointer (some ⟨b, q, none⟩), .slice ao 0 c] w fun e w' => e = .returned (.tuple #[.int .i64 0, .nilIface]) ∧ Buf w' b q T R bs own ∧ Fr w w' b own := by
  have hce : ∀ d dLen dCap W, (Builtin.copy_ #[22, 22] 3 #[.slice d dLen dCap, .slice ao 0 c]).run Ybad.prog W = .ok (goInt 0) W := fun d dLen dCap W => run_copy_none W 22 22 3 5 d ao dLen dCap 0 c Ybad.underlying22 size5 (by simp)
  obtain ⟨lr, ⟨rfl, rfl, h3⟩ | ⟨g, cap, cur, rfl, h3, hg, h1, h2, h4, h5, h6⟩⟩ := h
  · have c2 := h3.c2
    have f2 := h3.f (q + 2)
    have k3 := h3.set2 (.int .i8 0)
    have d0 := k3.c0
    have e0 := k3.f q
    have K4 := k3.set0 (.slice none 0 0)
    have HB : Hid (Buf ((w.setCell ⟨b, q + 2, none⟩ (.int .i8 0)).setCell ⟨b, q, none⟩ (.slice none 0 0)) b q T R [] none) := ⟨0, .inl ⟨rfl, rfl, K4⟩⟩
    have HF : Hid (Fr w ((w.setCell ⟨b, q + 2, none⟩ (.int .i8 0)).setCell ⟨b, q, none⟩ (.slice none 0 0)) b none) := Fr.of_grown (Lib.grownBy_setB (Lib.grownBy_setCell w b (q + 2) _) q _)
    clear K4 k3 h3
    go_enter Ybad.func7, Ybad.ntmps7
    go_wp2_with (go_at_call 17; refine (Ybad.Buffer_tryGrow_room_at b q none 0 0 0 _ d0 e0 (Nat.le_refl _) (Nat.zero_le _) (by omega)).mono ?_; rintro e w' ⟨rfl, rfl⟩)
    go_ret2
    exact ⟨rfl, HB.out, HF.out⟩
  · have c2 := h3.c2
    have f2 := h3.f (q + 2)
    have k3 := h3.set2 (.int .i8 0)
    have d0 := k3.c0
    have e0 := k3.f q
    have K4 := k3.set0 (.slice (some ⟨g, 0, none⟩) (bs.length + 0) cap)
    have hgg : ((w.setCell ⟨b, q + 2, none⟩ (.int .i8 0)).setCell ⟨b, q, none⟩ (.slice (some ⟨g, 0, none⟩) (bs.length + 0) cap)).heap[g]? = some (.cells cur 5 (0, 0)) := by
      rw [Below.heap_setCell _ _ _ _ h6, Below.heap_setCell _ _ _ _ h6]; exact hg
    have HB : Hid (Buf ((w.setCell ⟨b, q + 2, none⟩ (.int .i8 0)).setCell ⟨b, q, none⟩ (.slice (some ⟨g, 0, none⟩) (bs.length + 0) cap)) b q T R bs (some g)) := ⟨0, .inr ⟨g, cap, cur, rfl, K4, hgg, h1, h2, h4, h5, h6⟩⟩
    have HF : Hid (Fr w ((w.setCell ⟨b, q + 2, none⟩ (.int .i8 0)).setCell ⟨b, q, none⟩ (.slice (some ⟨g, 0, none⟩) (bs.length + 0) cap)) b (some g)) := Fr.of_grown (Lib.grownBy_setB (Lib.grownBy_setCell w b (q + 2) _) q _)
    have h2' := h2
    unfold maxLen at h2'
    clear K4 k3 h3 hgg
    by_cases hcl : cap = bs.length
    · subst hcl
      go_enter Ybad.func7, Ybad.ntmps7
      go_wp2_with (go_at_call 17; refine (Ybad.Buffer_tryGrow_room_at b q _ bs.length bs.length 0 _ d0 e0 h1 h2 (by omega)).mono ?_; rintro e w' ⟨rfl, rfl⟩)
      all_goals (go_ret2; exact ⟨rfl, HB.out, HF.out⟩)
    · go_enter Ybad.func7, Ybad.ntmps7
      go_wp2_with (go_at_call 17; refine (Ybad.Buffer_tryGrow_room_at b q _ bs.length cap 0 _ d0 e0 h1 h2 (by omega)).mono ?_; rintro e w' ⟨rfl, rfl⟩)
      all_goals (go_ret2; exact ⟨rfl, HB.out, HF.out⟩)

end Go.Proofs.YbulkdmkcDoor
