/-
  The plain law of the sift-up: no Go in sight.
-/
namespace Go.Proofs.Ybulkdmim.Sift

/-- ids p: which line stands at position p; mv i: has line i been moved; C i: line i's recorded index. -/
structure St where
  ids : Nat → Nat
  mv : Nat → Bool
  C : Nat → Int

/-- Positions j and p exchanged. -/
def step (s : St) (j p : Nat) : St :=
  { ids := fun q => if q = j then s.ids p else if q = p then s.ids j else s.ids q
    mv := fun i => if i = s.ids j then true else if i = s.ids p then true else s.mv i
    C := fun i => if i = s.ids j then (p : Int) else if i = s.ids p then (j : Int) else s.C i }

def up (P : Nat → Int) : Nat → Nat → St → St
  | 0, _, s => s
  | f + 1, j, s => if j = 0 then s else if P (s.ids j) < P (s.ids ((j - 1) / 2)) then up P f ((j - 1) / 2) (step s j ((j - 1) / 2)) else s

theorem up_zero (P : Nat → Int) (f : Nat) (s : St) : up P f 0 s = s := by cases f <;> simp [up]

theorem up_stop (P : Nat → Int) (f j : Nat) (s : St) (h : ¬ P (s.ids j) < P (s.ids ((j - 1) / 2))) : up P f j s = s := by
  cases f with
  | zero => rfl
  | succ f =>
    unfold up
    by_cases hj : j = 0
    · rw [if_pos hj]
    · rw [if_neg hj, if_neg h]

theorem up_go (P : Nat → Int) (f j : Nat) (s : St) (h0 : 0 < j) (hf : j ≤ f) (h : P (s.ids j) < P (s.ids ((j - 1) / 2))) :
    ∃ f', (j - 1) / 2 ≤ f' ∧ up P f j s = up P f' ((j - 1) / 2) (step s j ((j - 1) / 2)) := by
  cases f with
  | zero => omega
  | succ f =>
    refine ⟨f, by omega, ?_⟩
    conv => lhs; unfold up
    rw [if_neg (by omega), if_pos h]

/-- Positions below n hold lines below n, no line twice; each line's recorded index is its position if it was moved, else what it was at first. -/
structure Ok (n : Nat) (O : Nat → Int) (s : St) : Prop where
  lt : ∀ p, p < n → s.ids p < n
  inj : ∀ p q, p < n → q < n → s.ids p = s.ids q → p = q
  at_ : ∀ p, p < n → s.C (s.ids p) = if s.mv (s.ids p) = true then (p : Int) else O (s.ids p)

theorem step_ok {n : Nat} {O : Nat → Int} {s : St} {j p : Nat} (h : Ok n O s) (hj : j < n) (hp : p < n) : Ok n O (step s j p) := by
  have ids_at : ∀ q, q < n → (step s j p).ids q = if q = j then s.ids p else if q = p then s.ids j else s.ids q := fun _ _ => rfl
  refine ⟨fun q hq => ?_, fun a b ha hb e => ?_, fun q hq => ?_⟩
  · rw [ids_at q hq]
    by_cases e1 : q = j
    · rw [if_pos e1]; exact h.lt p hp
    · rw [if_neg e1]
      by_cases e2 : q = p
      · rw [if_pos e2]; exact h.lt j hj
      · rw [if_neg e2]; exact h.lt q hq
  · rw [ids_at a ha, ids_at b hb] at e
    by_cases a1 : a = j
    · rw [if_pos a1] at e
      by_cases b1 : b = j
      · omega
      · rw [if_neg b1] at e
        by_cases b2 : b = p
        · rw [if_pos b2] at e
          have := h.inj p j hp hj e
          omega
        · rw [if_neg b2] at e
          have := h.inj p b hp hb e
          omega
    · rw [if_neg a1] at e
      by_cases a2 : a = p
      · rw [if_pos a2] at e
        by_cases b1 : b = j
        · rw [if_pos b1] at e
          have := h.inj j p hj hp e
          omega
        · rw [if_neg b1] at e
          by_cases b2 : b = p
          · omega
          · rw [if_neg b2] at e
            have := h.inj j b hj hb e
            omega
      · rw [if_neg a2] at e
        by_cases b1 : b = j
        · rw [if_pos b1] at e
          have := h.inj a p ha hp e
          omega
        · rw [if_neg b1] at e
          by_cases b2 : b = p
          · rw [if_pos b2] at e
            have := h.inj a j ha hj e
            omega
          · rw [if_neg b2] at e
            exact h.inj a b ha hb e
  · have hC : ∀ i, (step s j p).C i = if i = s.ids j then (p : Int) else if i = s.ids p then (j : Int) else s.C i := fun _ => rfl
    have hM : ∀ i, (step s j p).mv i = if i = s.ids j then true else if i = s.ids p then true else s.mv i := fun _ => rfl
    rw [ids_at q hq]
    by_cases e1 : q = j
    · rw [if_pos e1, hC, hM]
      by_cases e2 : s.ids p = s.ids j
      · have := h.inj p j hp hj e2
        rw [if_pos e2, if_pos e2, if_pos rfl]
        omega
      · rw [if_neg e2, if_neg e2, if_pos rfl, if_pos rfl, if_pos rfl, e1]
    · rw [if_neg e1]
      by_cases e2 : q = p
      · rw [if_pos e2, hC, hM, if_pos rfl, if_pos rfl, if_pos rfl, e2]
      · rw [if_neg e2, hC, hM, if_neg (fun e => e1 (h.inj q j hq hj e)), if_neg (fun e => e2 (h.inj q p hq hp e)), if_neg (fun e => e1 (h.inj q j hq hj e)), if_neg (fun e => e2 (h.inj q p hq hp e))]
        exact h.at_ q hq

theorem up_ok {n : Nat} {O : Nat → Int} (P : Nat → Int) : ∀ (f j : Nat) (s : St), j < n → Ok n O s → Ok n O (up P f j s) := by
  intro f
  induction f with
  | zero => intro j s _ h; exact h
  | succ f ih =>
    intro j s hj h
    unfold up
    by_cases h0 : j = 0
    · rw [if_pos h0]; exact h
    · rw [if_neg h0]
      by_cases h1 : P (s.ids j) < P (s.ids ((j - 1) / 2))
      · rw [if_pos h1]
        exact ih _ _ (by omega) (step_ok h hj (by omega))
      · rw [if_neg h1]; exact h

/-- How it all begins: n lines at their places, line n new at position n, its index recorded. -/
def start (n : Nat) (O : Nat → Int) : St := { ids := fun p => p, mv := fun i => decide (i = n), C := fun i => if i = n then (n : Int) else O i }

theorem start_ok (n : Nat) (O : Nat → Int) : Ok (n + 1) O (start n O) := by
  refine ⟨fun p hp => hp, fun p q _ _ e => e, fun p _ => ?_⟩
  show (if p = n then (n : Int) else O p) = if decide (p = n) = true then (p : Int) else O p
  by_cases e : p = n
  · simp [e]
  · simp [e]

end Go.Proofs.Ybulkdmim.Sift
