/-
  The plain mathematics of decimal digits: reading a row of digit signs; the digits of a number. No program in sight.
-/
namespace Go.Proofs.Qxb6601318a.Dec

/-- the number that the first k signs stand for. -/
def val (f : Nat → Int) : Nat → Int
  | 0 => 0
  | k + 1 => val f k * 10 + (f k - 48)

theorem val_bound (f : Nat → Int) (k : Nat) (h : ∀ j, j < k → 48 ≤ f j ∧ f j ≤ 57) : 0 ≤ val f k ∧ val f k ≤ ((10 ^ k : Nat) : Int) - 1 := by
  induction k with
  | zero => simp [val]
  | succ k ih =>
    have a := ih (fun j hj => h j (by omega))
    have b := h k (by omega)
    simp only [val]
    rw [Nat.pow_succ]
    omega

theorem val_small (f : Nat → Int) (k m : Nat) (hk : k ≤ m) (h : ∀ j, j < k → 48 ≤ f j ∧ f j ≤ 57) : 0 ≤ val f k ∧ val f k ≤ ((10 ^ m : Nat) : Int) - 1 := by
  have a := val_bound f k h
  have b : 10 ^ k ≤ 10 ^ m := Nat.pow_le_pow_right (by omega) hk
  omega

theorem val_congr (f g : Nat → Int) (k : Nat) (h : ∀ j, j < k → f j = g j) : val f k = val g k := by
  induction k with
  | zero => rfl
  | succ k ih => simp only [val]; rw [ih (fun j hj => h j (by omega)), h k (by omega)]

def dgt (M i : Nat) : Nat := M / 10 ^ i % 10

/-- z noughts, then the d digits of M, the highest first. -/
def row (z M d : Nat) (j : Nat) : Int := if j < z then 48 else 48 + (dgt M (d - 1 - (j - z)) : Int)

theorem row_digit (z M d j : Nat) : 48 ≤ row z M d j ∧ row z M d j ≤ 57 := by
  unfold row
  split
  · omega
  · have : dgt M (d - 1 - (j - z)) < 10 := Nat.mod_lt _ (by omega)
    omega

theorem row_zeros (z M d k : Nat) (hk : k ≤ z) : val (row z M d) k = 0 := by
  induction k with
  | zero => rfl
  | succ k ih =>
    simp only [val]
    rw [ih (by omega)]
    unfold row
    rw [if_pos (by omega)]; omega

theorem row_val (z M d j : Nat) (hd : M / 10 ^ d = 0) (hj : j ≤ d) : val (row z M d) (z + j) = ((M / 10 ^ (d - j) : Nat) : Int) := by
  induction j with
  | zero => rw [Nat.add_zero, row_zeros z M d z (Nat.le_refl _), Nat.sub_zero, hd]; rfl
  | succ j ih =>
    rw [← Nat.add_assoc]
    simp only [val]
    rw [ih (by omega)]
    unfold row
    rw [if_neg (by omega), show d - 1 - (z + j - z) = d - (j + 1) by omega]
    unfold dgt
    have e : M / 10 ^ (d - j) = M / 10 ^ (d - (j + 1)) / 10 := by
      rw [show d - j = (d - (j + 1)) + 1 by omega, Nat.pow_succ, Nat.div_div_eq_div_mul]
    rw [e]
    omega

theorem row_whole (z M d : Nat) (hd : M / 10 ^ d = 0) : val (row z M d) (z + d) = (M : Int) := by
  rw [row_val z M d d hd (Nat.le_refl _)]; simp

theorem div_step (M d : Nat) : M / 10 ^ (d + 1) = M / 10 ^ d / 10 := by rw [Nat.pow_succ, Nat.div_div_eq_div_mul]

theorem digits_le {M d : Nat} (hM : M < 1000000000000000000) (h : 0 < M / 10 ^ d) : d < 18 := by
  by_cases hd : d < 18
  · exact hd
  · exfalso
    have : 10 ^ 18 ≤ 10 ^ d := Nat.pow_le_pow_right (by omega) (by omega)
    rw [Nat.div_eq_of_lt (by omega)] at h
    omega

end Go.Proofs.Qxb6601318a.Dec
