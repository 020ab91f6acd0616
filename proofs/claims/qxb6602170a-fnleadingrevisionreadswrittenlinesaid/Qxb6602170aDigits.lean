/-
  PLAIN MATHEMATICS: the decimal digits of a number below 10^9.
-/
namespace Go.Proofs.Qxb6602170a

/-- What is left of r behind k digits. -/
def rem (r : Int) : Nat → Int
  | 0 => r
  | k + 1 => rem r k / 10

theorem rem_nonneg (r : Int) (h : 0 ≤ r) : ∀ k, 0 ≤ rem r k
  | 0 => h
  | k + 1 => by have := rem_nonneg r h k; simp only [rem]; omega

theorem rem_le (r : Int) (h : 0 ≤ r) : ∀ k, rem r k ≤ r
  | 0 => Int.le_refl _
  | k + 1 => by have := rem_le r h k; have := rem_nonneg r h k; simp only [rem]; omega

theorem rem_nine (r : Int) (h : 0 ≤ r) (h9 : r ≤ 999999999) : rem r 9 = 0 := by
  simp only [rem]; omega

/-- The digits, the highest first, of the d digits of r; and the number that the first k of them make. -/
def digAt (r : Int) (d j : Nat) : Int := rem r (d - 1 - j) % 10
def topOf (r : Int) (d k : Nat) : Int := rem r (d - k)

theorem topOf_zero (r : Int) (d : Nat) (h : rem r d = 0) : topOf r d 0 = 0 := h
theorem topOf_succ (r : Int) (d k : Nat) (hk : k < d) : topOf r d (k + 1) = 10 * topOf r d k + digAt r d k := by
  unfold topOf digAt
  have e1 : d - k = (d - 1 - k) + 1 := by omega
  have e2 : d - (k + 1) = d - 1 - k := by omega
  rw [e1, e2]
  simp only [rem]
  omega
theorem topOf_all (r : Int) (d : Nat) : topOf r d d = r := by unfold topOf; rw [Nat.sub_self]; rfl
theorem topOf_bounds (r : Int) (d k : Nat) (h : 0 ≤ r) (h9 : r ≤ 999999999) : 0 ≤ topOf r d k ∧ topOf r d k ≤ 999999999 := by
  unfold topOf
  have := rem_nonneg r h (d - k)
  have := rem_le r h (d - k)
  omega
theorem digAt_bounds (r : Int) (d j : Nat) (h : 0 ≤ r) : 0 ≤ digAt r d j ∧ digAt r d j ≤ 9 := by
  unfold digAt
  have := rem_nonneg r h (d - 1 - j)
  omega

def keyL : List Nat := [123, 34, 114, 101, 118, 105, 115, 105, 111, 110, 34, 58]
def key (j : Nat) : Int := (keyL.getD j 0 : Nat)
theorem key_bounds : ∀ j, j < 12 → 0 ≤ key j ∧ key j < 256 := by
  intro j hj
  match j, hj with
  | 0, _ => decide
  | 1, _ => decide
  | 2, _ => decide
  | 3, _ => decide
  | 4, _ => decide
  | 5, _ => decide
  | 6, _ => decide
  | 7, _ => decide
  | 8, _ => decide
  | 9, _ => decide
  | 10, _ => decide
  | 11, _ => decide

/-- The line as the law writes it: the key, the digits, the tail. -/
def lineOf (r : Int) (d : Nat) (t : Nat → Int) (j : Nat) : Int :=
  if j < 12 then key j else if j < 12 + d then 48 + digAt r d (j - 12) else t (j - 12 - d)

theorem lineOf_key (r : Int) (d : Nat) (t : Nat → Int) (j : Nat) (h : j < 12) : lineOf r d t j = key j := by simp [lineOf, h]
theorem lineOf_dig (r : Int) (d : Nat) (t : Nat → Int) (j : Nat) (h : j < d) : lineOf r d t (12 + j) = 48 + digAt r d j := by
  unfold lineOf
  rw [if_neg (by omega), if_pos (by omega), show 12 + j - 12 = j by omega]
theorem lineOf_tail (r : Int) (d : Nat) (t : Nat → Int) (j : Nat) : lineOf r d t (12 + d + j) = t j := by
  unfold lineOf
  rw [if_neg (by omega), if_neg (by omega), show 12 + d + j - 12 - d = j by omega]
end Go.Proofs.Qxb6602170a
