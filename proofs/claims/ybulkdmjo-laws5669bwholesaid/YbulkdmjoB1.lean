/-
  The plain law of the sum digit by digit: no Go in sight.
-/
namespace Go.Proofs.Ybulkdmjo.Dec

/-- x divided by ten, k times. -/
def dv (x : Int) : Nat → Int
  | 0 => x
  | k + 1 => dv x k / 10

/-- Digit m of the limbs X. -/
def dg (X : Nat → Int) (m : Nat) : Int := dv (X (m / 5)) (m % 5) % 10

/-- The carry into digit m. -/
def cy (X Y : Nat → Int) : Nat → Int
  | 0 => 0
  | m + 1 => (dg X m + dg Y m + cy X Y m) / 10

/-- Digit m of the sum. -/
def sm (X Y : Nat → Int) (m : Nat) : Int := (dg X m + dg Y m + cy X Y m) % 10

/-- Horner's value of limb i behind t digits, the highest first. -/
def hv (f : Nat → Int) (i : Nat) : Nat → Int
  | 0 => 0
  | t + 1 => hv f i t * 10 + f (i * 5 + (4 - t))

/-- The carry into limb i. -/
def lc (X Y : Nat → Int) : Nat → Int
  | 0 => 0
  | i + 1 => (X i + lc X Y i + Y i) / 100000

/-- Limb i of the sum. -/
def lr (X Y : Nat → Int) (i : Nat) : Int := (X i + lc X Y i + Y i) % 100000

def Limbs (X : Nat → Int) : Prop := ∀ i, 0 ≤ X i ∧ X i < 100000

theorem dv_nonneg {x : Int} (h : 0 ≤ x) (k : Nat) : 0 ≤ dv x k ∧ dv x k ≤ x := by
  induction k with
  | zero => exact ⟨h, Int.le_refl _⟩
  | succ k ih => unfold dv; omega

theorem dg_bd {X : Nat → Int} (m : Nat) : 0 ≤ dg X m ∧ dg X m ≤ 9 := by unfold dg; omega

theorem cy_bd (X Y : Nat → Int) (m : Nat) : 0 ≤ cy X Y m ∧ cy X Y m ≤ 1 := by
  induction m with
  | zero => unfold cy; omega
  | succ m ih =>
    have h1 := dg_bd (X := X) m
    have h2 := dg_bd (X := Y) m
    unfold cy
    omega

theorem sm_bd (X Y : Nat → Int) (m : Nat) : 0 ≤ sm X Y m ∧ sm X Y m ≤ 9 := by unfold sm; omega

theorem lc_bd {X Y : Nat → Int} (hX : Limbs X) (hY : Limbs Y) (i : Nat) : 0 ≤ lc X Y i ∧ lc X Y i ≤ 1 := by
  induction i with
  | zero => unfold lc; omega
  | succ i ih =>
    have h1 := hX i
    have h2 := hY i
    unfold lc
    omega

theorem lr_bd (X Y : Nat → Int) (i : Nat) : 0 ≤ lr X Y i ∧ lr X Y i < 100000 := by unfold lr; omega

theorem lc_comm (X Y : Nat → Int) (i : Nat) : lc X Y i = lc Y X i := by
  induction i with
  | zero => rfl
  | succ i ih => unfold lc; rw [ih]; congr 1; omega

theorem lr_comm (X Y : Nat → Int) (i : Nat) : lr X Y i = lr Y X i := by
  unfold lr; rw [lc_comm]; congr 1; omega

theorem dg_at (X : Nat → Int) (i k : Nat) (hk : k < 5) : dg X (i * 5 + k) = dv (X i) k % 10 := by
  unfold dg
  rw [show (i * 5 + k) / 5 = i by omega, show (i * 5 + k) % 5 = k by omega]

/-- One limb, five digits: the carry out, and the value. -/
theorem limb (a b c c1 c2 c3 c4 c5 : Int) (ha : 0 ≤ a ∧ a < 100000) (hb : 0 ≤ b ∧ b < 100000)
    (h1 : (a % 10 + b % 10 + c) / 10 = c1) (h2 : (a / 10 % 10 + b / 10 % 10 + c1) / 10 = c2) (h3 : (a / 10 / 10 % 10 + b / 10 / 10 % 10 + c2) / 10 = c3)
    (h4 : (a / 10 / 10 / 10 % 10 + b / 10 / 10 / 10 % 10 + c3) / 10 = c4) (h5 : (a / 10 / 10 / 10 / 10 % 10 + b / 10 / 10 / 10 / 10 % 10 + c4) / 10 = c5) :
    c5 = (a + c + b) / 100000 ∧
    ((((0 * 10 + (a / 10 / 10 / 10 / 10 % 10 + b / 10 / 10 / 10 / 10 % 10 + c4) % 10) * 10 + (a / 10 / 10 / 10 % 10 + b / 10 / 10 / 10 % 10 + c3) % 10) * 10 + (a / 10 / 10 % 10 + b / 10 / 10 % 10 + c2) % 10) * 10 + (a / 10 % 10 + b / 10 % 10 + c1) % 10) * 10 + (a % 10 + b % 10 + c) % 10 = (a + c + b) % 100000 := by
  -- the running quotients of the sum
  have q1 : (a + b + c) / 10 = a / 10 + b / 10 + c1 := by omega
  have r1 : (a % 10 + b % 10 + c) % 10 = (a + b + c) % 10 := by omega
  have q2 : (a / 10 + b / 10 + c1) / 10 = a / 10 / 10 + b / 10 / 10 + c2 := by omega
  have r2 : (a / 10 % 10 + b / 10 % 10 + c1) % 10 = (a / 10 + b / 10 + c1) % 10 := by omega
  have q3 : (a / 10 / 10 + b / 10 / 10 + c2) / 10 = a / 10 / 10 / 10 + b / 10 / 10 / 10 + c3 := by omega
  have r3 : (a / 10 / 10 % 10 + b / 10 / 10 % 10 + c2) % 10 = (a / 10 / 10 + b / 10 / 10 + c2) % 10 := by omega
  have q4 : (a / 10 / 10 / 10 + b / 10 / 10 / 10 + c3) / 10 = a / 10 / 10 / 10 / 10 + b / 10 / 10 / 10 / 10 + c4 := by omega
  have r4 : (a / 10 / 10 / 10 % 10 + b / 10 / 10 / 10 % 10 + c3) % 10 = (a / 10 / 10 / 10 + b / 10 / 10 / 10 + c3) % 10 := by omega
  have q5 : (a / 10 / 10 / 10 / 10 + b / 10 / 10 / 10 / 10 + c4) / 10 = c5 := by omega
  have r5 : (a / 10 / 10 / 10 / 10 % 10 + b / 10 / 10 / 10 / 10 % 10 + c4) % 10 = (a / 10 / 10 / 10 / 10 + b / 10 / 10 / 10 / 10 + c4) % 10 := by omega
  rw [r1, r2, r3, r4, r5]
  generalize a / 10 / 10 / 10 / 10 + b / 10 / 10 / 10 / 10 + c4 = t4 at *
  generalize a / 10 / 10 / 10 + b / 10 / 10 / 10 + c3 = t3 at *
  generalize a / 10 / 10 + b / 10 / 10 + c2 = t2 at *
  generalize a / 10 + b / 10 + c1 = t1 at *
  rw [show a + c + b = a + b + c by omega]
  generalize a + b + c = t0 at *
  clear h1 h2 h3 h4 h5 r1 r2 r3 r4 r5 ha hb
  omega

theorem cy_limb {X Y : Nat → Int} (hX : Limbs X) (hY : Limbs Y) (i : Nat) : cy X Y (i * 5) = lc X Y i ∧ hv (sm X Y) i 5 = lr X Y i ∧ cy X Y ((i + 1) * 5) = lc X Y (i + 1) := by
  have key : ∀ i, cy X Y (i * 5) = lc X Y i → hv (sm X Y) i 5 = lr X Y i ∧ cy X Y ((i + 1) * 5) = lc X Y (i + 1) := by
    intro i hc
    have e : ∀ k, k < 5 → cy X Y (i * 5 + k + 1) = (dv (X i) k % 10 + dv (Y i) k % 10 + cy X Y (i * 5 + k)) / 10 := by
      intro k hk
      show (dg X (i * 5 + k) + dg Y (i * 5 + k) + cy X Y (i * 5 + k)) / 10 = _
      rw [dg_at X i k hk, dg_at Y i k hk]
    have d : ∀ k, k < 5 → sm X Y (i * 5 + k) = (dv (X i) k % 10 + dv (Y i) k % 10 + cy X Y (i * 5 + k)) % 10 := by
      intro k hk
      unfold sm
      rw [dg_at X i k hk, dg_at Y i k hk]
    have e0 := e 0 (by omega)
    have e1 := e 1 (by omega)
    have e2 := e 2 (by omega)
    have e3 := e 3 (by omega)
    have e4 := e 4 (by omega)
    have d0 := d 0 (by omega)
    have d1 := d 1 (by omega)
    have d2 := d 2 (by omega)
    have d3 := d 3 (by omega)
    have d4 := d 4 (by omega)
    simp only [dv, Nat.add_zero] at e0 e1 e2 e3 e4 d0 d1 d2 d3 d4
    have L := limb (X i) (Y i) (cy X Y (i * 5)) _ _ _ _ _ (hX i) (hY i) e0.symm e1.symm e2.symm e3.symm e4.symm
    have hh : hv (sm X Y) i 5 = ((((0 * 10 + sm X Y (i * 5 + 4)) * 10 + sm X Y (i * 5 + 3)) * 10 + sm X Y (i * 5 + 2)) * 10 + sm X Y (i * 5 + 1)) * 10 + sm X Y (i * 5) := rfl
    refine ⟨?_, ?_⟩
    · rw [hh, d4, d3, d2, d1, d0, L.2, hc]; rfl
    · rw [show (i + 1) * 5 = i * 5 + 4 + 1 by omega, L.1, hc]; rfl
  have all : ∀ i, cy X Y (i * 5) = lc X Y i := by
    intro i
    induction i with
    | zero => rfl
    | succ i ih => exact (key i ih).2
  exact ⟨all i, key i (all i)⟩

theorem hv_bd {f : Nat → Int} (h : ∀ m, 0 ≤ f m ∧ f m ≤ 9) (i t : Nat) (ht : t ≤ 5) : 0 ≤ hv f i t ∧ hv f i t ≤ 99999 := by
  have h0 : hv f i 0 = 0 := rfl
  have h1 : hv f i 1 = hv f i 0 * 10 + f (i * 5 + 4) := rfl
  have h2 : hv f i 2 = hv f i 1 * 10 + f (i * 5 + 3) := rfl
  have h3 : hv f i 3 = hv f i 2 * 10 + f (i * 5 + 2) := rfl
  have h4 : hv f i 4 = hv f i 3 * 10 + f (i * 5 + 1) := rfl
  have h5 : hv f i 5 = hv f i 4 * 10 + f (i * 5) := rfl
  have b0 := h (i * 5)
  have b1 := h (i * 5 + 1)
  have b2 := h (i * 5 + 2)
  have b3 := h (i * 5 + 3)
  have b4 := h (i * 5 + 4)
  have hcases : t = 0 ∨ t = 1 ∨ t = 2 ∨ t = 3 ∨ t = 4 ∨ t = 5 := by omega
  rcases hcases with rfl | rfl | rfl | rfl | rfl | rfl <;> omega

end Go.Proofs.Ybulkdmjo.Dec
