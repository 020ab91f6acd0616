/-
  PLAIN MATHEMATICS, no Go in sight: the rows of the edit distance, and the band of them that is worked out and capped at 3.
-/
namespace Go.Proofs.Qxb6601309a.Ed

/-- One row of the edit distance from the row above it. -/
def nextRow (prev : Nat → Int) (c : Int) (w : Nat → Int) (i : Nat) : Nat → Int
  | 0 => i
  | j + 1 => min (min (prev j + if w j = c then 0 else 1) (prev (j + 1) + 1)) (nextRow prev c w i j + 1)

/-- The i-th row. -/
def row (a w : Nat → Int) : Nat → Nat → Int
  | 0 => fun j => j
  | i + 1 => nextRow (row a w i) (a i) w (i + 1)

def cap (x : Int) : Int := min x 3

theorem row_zero (a w : Nat → Int) (j : Nat) : row a w 0 j = j := rfl
theorem row_succ_zero (a w : Nat → Int) (i : Nat) : row a w (i + 1) 0 = ((i + 1 : Nat) : Int) := rfl
theorem row_succ_succ (a w : Nat → Int) (i j : Nat) :
    row a w (i + 1) (j + 1) = min (min (row a w i j + if w j = a i then 0 else 1) (row a w i (j + 1) + 1)) (row a w (i + 1) j + 1) := rfl

theorem row_at_zero (a w : Nat → Int) (i : Nat) : row a w i 0 = (i : Int) := by cases i <;> rfl

/-- At least the difference of the lengths; at most their sum. -/
theorem row_bounds (a w : Nat → Int) : ∀ i j : Nat, (i : Int) - j ≤ row a w i j ∧ (j : Int) - i ≤ row a w i j ∧ row a w i j ≤ i + j := by
  intro i
  induction i with
  | zero => intro j; rw [row_zero]; omega
  | succ i ih =>
    intro j
    induction j with
    | zero => rw [row_succ_zero]; omega
    | succ j ihj =>
      rw [row_succ_succ]
      have h1 := ih j
      have h2 := ih (j + 1)
      split <;> omega

theorem cap_far (a w : Nat → Int) (i j : Nat) (h : i + 3 ≤ j ∨ j + 3 ≤ i) : cap (row a w i j) = 3 := by
  have := row_bounds a w i j
  unfold cap
  omega

/-- One cell of the band. -/
theorem cap_step (a w : Nat → Int) (i j : Nat) :
    cap (row a w (i + 1) (j + 1)) = min (min (min (cap (row a w i j) + if w j = a i then 0 else 1) (cap (row a w i (j + 1)) + 1)) (cap (row a w (i + 1) j) + 1)) 3 := by
  rw [row_succ_succ]
  unfold cap
  split <;> omega

theorem cap_zero (a w : Nat → Int) (i : Nat) : cap (row a w i 0) = min (i : Int) 3 := by rw [row_at_zero]; rfl

/-- The least of 3 and of f over lo .. lo + n - 1. -/
def least (f : Nat → Int) (lo : Nat) : Nat → Int
  | 0 => 3
  | n + 1 => min (least f lo n) (f (lo + n))

theorem least_le (f : Nat → Int) (lo : Nat) : ∀ n, least f lo n ≤ 3
  | 0 => by simp [least]
  | n + 1 => by have := least_le f lo n; simp only [least]; omega

theorem least_congr (f g : Nat → Int) (lo : Nat) : ∀ n, (∀ k, k < n → f (lo + k) = g (lo + k)) → least f lo n = least g lo n
  | 0, _ => rfl
  | n + 1, h => by
    simp only [least]
    rw [least_congr f g lo n (fun k hk => h k (by omega)), h n (by omega)]

/-- What is 3 or more does not count. -/
theorem least_skip (f : Nat → Int) (lo : Nat) (h : ∀ k, k < lo → 3 ≤ f k) : ∀ n, least f 0 (lo + n) = least f lo n := by
  have h0 : ∀ k, k ≤ lo → least f 0 k = 3 := by
    intro k
    induction k with
    | zero => intro _; rfl
    | succ k ih =>
      intro hk
      simp only [least, Nat.zero_add]
      rw [ih (by omega)]
      have := h k (by omega)
      omega
  intro n
  induction n with
  | zero => exact h0 lo (Nat.le_refl _)
  | succ n ih =>
    show least f 0 ((lo + n) + 1) = _
    simp only [least, Nat.zero_add]
    rw [ih]

theorem least_tail (f : Nat → Int) (n : Nat) : ∀ m, (∀ k, n ≤ k → k < n + m → 3 ≤ f k) → least f 0 (n + m) = least f 0 n
  | 0, _ => rfl
  | m + 1, h => by
    show least f 0 ((n + m) + 1) = _
    simp only [least, Nat.zero_add]
    rw [least_tail f n m (fun k h1 h2 => h k h1 (by omega))]
    have := h (n + m) (by omega) (by omega)
    have := least_le f 0 n
    omega

theorem least_cap (f : Nat → Int) (lo : Nat) : ∀ n, least (fun j => cap (f j)) lo n = least f lo n
  | 0 => rfl
  | n + 1 => by
    simp only [least]
    rw [least_cap f lo n]
    have := least_le f lo n
    unfold cap
    omega

/-- THE LEAST CELL OF THE BAND IS THE LEAST OF THE WHOLE ROW, capped. 'lo' .. 'hi' is the band. -/
theorem least_band (a w : Nat → Int) (i m lo n : Nat) (hlo : lo = i - 2) (hn : lo + n = min m (i + 2) + 1 ∨ (n = 0 ∧ min m (i + 2) + 1 ≤ lo)) :
    least (fun j => cap (row a w i j)) lo n = least (row a w i) 0 (m + 1) := by
  rw [least_cap]
  have far : ∀ k, (k + 3 ≤ i ∨ i + 3 ≤ k) → 3 ≤ row a w i k := by
    intro k hk
    have := row_bounds a w i k
    omega
  rcases hn with hn | ⟨rfl, hn⟩
  · rw [← least_skip (row a w i) lo (fun k hk => far k (by omega)) n, hn]
    obtain ⟨d, hd⟩ : ∃ d, m + 1 = (min m (i + 2) + 1) + d := ⟨m - min m (i + 2), by omega⟩
    rw [hd, least_tail (row a w i) (min m (i + 2) + 1) d (fun k h1 h2 => far k (by omega))]
  · have : least (row a w i) 0 (0 + (m + 1)) = least (row a w i) 0 0 := least_tail _ 0 (m + 1) (fun k h1 h2 => far k (by omega))
    rw [Nat.zero_add] at this
    rw [this]
    rfl

end Go.Proofs.Qxb6601309a.Ed
