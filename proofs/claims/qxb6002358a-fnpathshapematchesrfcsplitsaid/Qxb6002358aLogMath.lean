/-
  The plain mathematics of the log's layout: nodes of the perfect subtrees, trailing ones. No program in sight.
-/
import Derived.Test.Qxb6002358aPopMath
namespace Go.Proofs.Qxb6002358a.Pop

theorem popF_succ (k x : Nat) : popF (k + 1) x = popF k x + x / 2 ^ k % 2 := by
  rw [popF_add]; simp [popF]

theorem popF_le_mod (k x : Nat) : popF k x ≤ x % 2 ^ k := by
  induction k with
  | zero => simp [popF]
  | succ k ih =>
    rw [popF_succ, Nat.mod_pow_succ]
    have hp : 0 < 2 ^ k := Nat.two_pow_pos k
    rcases Nat.mod_two_eq_zero_or_one (x / 2 ^ k) with h | h <;> rw [h] <;> omega

theorem pop_le (x : Nat) (h : x < 2 ^ 64) : pop x ≤ x := by
  have := popF_le_mod 64 x
  rw [Nat.mod_eq_of_lt h] at this
  exact this

theorem pop_le64 (x : Nat) : pop x ≤ 64 := popF_le 64 x

/-- the nodes that the low k bits of x stand for. -/
def peak (k x : Nat) : Int := 2 * ((x % 2 ^ k : Nat) : Int) - (popF k x : Int)

theorem peak_zero (x : Nat) : peak 0 x = 0 := by simp [peak, popF, Nat.mod_one]

theorem peak_set {k x : Nat} (h : x / 2 ^ k % 2 = 1) : peak (k + 1) x = peak k x + (2 * 2 ^ k - 1) := by
  unfold peak
  rw [popF_succ, Nat.mod_pow_succ, h]
  simp only [Int.natCast_add, Int.natCast_pow, Nat.mul_one]
  simp
  omega

theorem peak_unset {k x : Nat} (h : x / 2 ^ k % 2 = 0) : peak (k + 1) x = peak k x := by
  unfold peak
  rw [popF_succ, Nat.mod_pow_succ, h]
  simp

theorem peak_lo (k x : Nat) : 0 ≤ peak k x := by
  unfold peak; have := popF_le_mod k x; omega

theorem peak_hi (k x : Nat) : peak k x ≤ 2 * (x : Int) := by
  unfold peak; have := Nat.mod_le x (2 ^ k); omega

theorem peak_end (x : Nat) (h : x < 2 ^ 64) : peak 64 x = 2 * (x : Int) - (pop x : Int) := by
  unfold peak
  rw [Nat.mod_eq_of_lt h]
  rfl

theorem pow_le_of_bit {k x : Nat} (h : x / 2 ^ k % 2 = 1) : 2 ^ k ≤ x := by
  have hp : 0 < 2 ^ k := Nat.two_pow_pos k
  have : 1 ≤ x / 2 ^ k := Nat.pos_of_ne_zero (fun h0 => by rw [h0] at h; simp at h)
  exact (Nat.one_le_div_iff hp).1 this

theorem popF_zero (k : Nat) : popF k 0 = 0 := by
  induction k with
  | zero => rfl
  | succ k ih => simp [popF, ih]

theorem pop_half (y : Nat) (h : y < 2 ^ 64) : pop y = y % 2 + pop (y / 2) := by
  unfold pop
  have e : popF 64 (y / 2) = popF 63 (y / 2) := by
    rw [popF_succ 63 (y / 2), Nat.div_eq_of_lt (by omega : y / 2 < 2 ^ 63)]; simp
  rw [e]; rfl

/-- behind t rounds of zzTrailingOnes, what is left being y. -/
def ones (x y t : Nat) : Prop := y ≤ x ∧ pop x = t + pop y ∧ pop (x + 1) = pop (y + 1)

theorem ones_start (x : Nat) : ones x x 0 := ⟨Nat.le_refl _, by omega, rfl⟩

theorem ones_step {x y t : Nat} (hx : x < 2 ^ 63) (h : ones x y t) (ho : y % 2 = 1) : ones x (y / 2) (t + 1) := by
  obtain ⟨h1, h2, h3⟩ := h
  have a := pop_half y (by omega)
  have b := pop_half (y + 1) (by omega)
  rw [show (y + 1) / 2 = y / 2 + 1 by omega] at b
  exact ⟨by omega, by omega, by omega⟩

theorem ones_t {x y t : Nat} (hx : x < 2 ^ 63) (h : ones x y t) (ho : y % 2 = 1) : t < 64 := by
  obtain ⟨h1, h2, h3⟩ := h
  have a := pop_half y (by omega)
  have := pop_le64 x
  omega

theorem ones_t' {x y t : Nat} (h : ones x y t) : t ≤ 64 := by
  obtain ⟨h1, h2, h3⟩ := h
  have := pop_le64 x
  omega

theorem ones_end {x y t : Nat} (hx : x < 2 ^ 63) (h : ones x y t) (ho : y % 2 = 0) : pop (x + 1) + t = pop x + 1 := by
  obtain ⟨h1, h2, h3⟩ := h
  have a := pop_half y (by omega)
  have b := pop_half (y + 1) (by omega)
  rw [show (y + 1) / 2 = y / 2 by omega] at b
  omega

/-- one more has at most one bit more. -/
theorem pop_succ_le (x : Nat) (hx : x < 2 ^ 63) : pop (x + 1) ≤ pop x + 1 := by
  have h : ∀ n y t, y < 2 ^ n → ones x y t → pop (x + 1) ≤ pop x + 1 := by
    intro n
    induction n with
    | zero =>
      intro y t hy h
      have := ones_end hx h (by omega)
      omega
    | succ n ih =>
      intro y t hy h
      rcases Nat.mod_two_eq_zero_or_one y with hb | hb
      · have := ones_end hx h hb; omega
      · exact ih (y / 2) (t + 1) (by rw [Nat.pow_succ] at hy; omega) (ones_step hx h hb)
  exact h 63 x 0 hx (ones_start x)

end Go.Proofs.Qxb6002358a.Pop
