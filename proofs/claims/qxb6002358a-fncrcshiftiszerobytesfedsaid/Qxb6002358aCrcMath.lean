/-
  The plain mathematics of crcMultiply: polynomials over two elements, in 32 bits, reflected. No program in sight.
-/
namespace Go.Proofs.Qxb6002358a.CrcMath

/-- times x. -/
def mx (b : BitVec 32) : BitVec 32 := (b >>> 1) ^^^ (bif b.getLsbD 0 then 2197175160#32 else 0#32)

/-- times x^k. -/
def pw : Nat → BitVec 32 → BitVec 32
  | 0, b => b
  | k + 1, b => mx (pw k b)

/-- the sum of x^k b over the k below n that f names. -/
def comb (f : Nat → Bool) : Nat → BitVec 32 → BitVec 32
  | 0, _ => 0#32
  | n + 1, b => comb f n b ^^^ (bif f n then pw n b else 0#32)

/-- the unit. -/
def e0 : BitVec 32 := 2147483648#32

def mul (a b : BitVec 32) : BitVec 32 := comb (fun k => a.getLsbD (31 - k)) 32 b

theorem xor4 (a b c d : BitVec 32) : (a ^^^ b) ^^^ (c ^^^ d) = (a ^^^ c) ^^^ (b ^^^ d) := by
  rw [BitVec.xor_assoc, ← BitVec.xor_assoc b c d, BitVec.xor_comm b c, BitVec.xor_assoc c b d, ← BitVec.xor_assoc]

theorem mx_xor (a b : BitVec 32) : mx (a ^^^ b) = mx a ^^^ mx b := by
  unfold mx
  rw [xor4]
  congr 1
  · ext i; simp
  · rw [BitVec.getLsbD_xor]
    cases a.getLsbD 0 <;> cases b.getLsbD 0 <;> simp

theorem mx_zero : mx 0#32 = 0#32 := by decide

theorem pw_xor (k : Nat) (a b : BitVec 32) : pw k (a ^^^ b) = pw k a ^^^ pw k b := by
  induction k with
  | zero => rfl
  | succ k ih => simp only [pw, ih, mx_xor]

theorem pw_zero (k : Nat) : pw k 0#32 = 0#32 := by
  induction k with
  | zero => rfl
  | succ k ih => simp only [pw, ih, mx_zero]

theorem pw_add (i j : Nat) (b : BitVec 32) : pw (i + j) b = pw i (pw j b) := by
  induction i with
  | zero => simp [pw]
  | succ i ih => rw [show i + 1 + j = (i + j) + 1 by omega]; simp only [pw, ih]

theorem pw_comm (i j : Nat) (b : BitVec 32) : pw i (pw j b) = pw j (pw i b) := by
  rw [← pw_add, ← pw_add, Nat.add_comm]

theorem pw_ite (k : Nat) (c : Bool) (b : BitVec 32) : pw k (bif c then b else 0#32) = bif c then pw k b else 0#32 := by
  cases c <;> simp [pw_zero]

theorem comb_xor (f : Nat → Bool) (n : Nat) (a b : BitVec 32) : comb f n (a ^^^ b) = comb f n a ^^^ comb f n b := by
  induction n with
  | zero => simp [comb]
  | succ n ih =>
    simp only [comb, ih, pw_xor]
    rw [xor4]
    cases f n <;> simp

theorem comb_zero (f : Nat → Bool) (n : Nat) : comb f n 0#32 = 0#32 := by
  induction n with
  | zero => simp [comb]
  | succ n ih => simp [comb, ih, pw_zero]

theorem comb_pw (f : Nat → Bool) (n j : Nat) (b : BitVec 32) : comb f n (pw j b) = pw j (comb f n b) := by
  induction n with
  | zero => simp [comb, pw_zero]
  | succ n ih => simp only [comb, ih, pw_xor, pw_ite]; rw [pw_comm]

theorem comb_ite (f : Nat → Bool) (n : Nat) (c : Bool) (b : BitVec 32) : comb f n (bif c then b else 0#32) = bif c then comb f n b else 0#32 := by
  cases c <;> simp [comb_zero]

theorem comb_comm (f g : Nat → Bool) (n m : Nat) (b : BitVec 32) : comb f n (comb g m b) = comb g m (comb f n b) := by
  induction m with
  | zero => simp [comb, comb_zero]
  | succ m ih => simp only [comb, comb_xor, ih, comb_ite, comb_pw]

theorem comb_fxor (f g : Nat → Bool) (n : Nat) (b : BitVec 32) : comb (fun k => xor (f k) (g k)) n b = comb f n b ^^^ comb g n b := by
  induction n with
  | zero => simp [comb]
  | succ n ih =>
    simp only [comb, ih]
    rw [xor4]
    cases f n <;> cases g n <;> simp

theorem comb_congr (f g : Nat → Bool) (n : Nat) (b : BitVec 32) (h : ∀ k, k < n → f k = g k) : comb f n b = comb g n b := by
  induction n with
  | zero => rfl
  | succ n ih => simp only [comb]; rw [ih (fun k hk => h k (by omega)), h n (by omega)]

theorem comb_trunc (f : Nat → Bool) (m d : Nat) (b : BitVec 32) (h : ∀ k, m ≤ k → f k = false) : comb f (m + d) b = comb f m b := by
  induction d with
  | zero => rfl
  | succ d ih => rw [← Nat.add_assoc]; simp only [comb]; rw [ih, h (m + d) (by omega)]; simp

/-- a shift of the names by i is times x^i. -/
theorem comb_shift (f : Nat → Bool) (i n : Nat) (b : BitVec 32) : comb (fun k => !decide (k < i) && f (k - i)) (i + n) b = pw i (comb f n b) := by
  induction n with
  | zero =>
    rw [comb_congr _ (fun _ => false) (i + 0) b (fun k hk => by simp; omega)]
    have h : ∀ m, comb (fun _ => false) m b = 0#32 := by
      intro m; induction m with
      | zero => rfl
      | succ m ih => simp [comb, ih]
    rw [h]; simp [comb, pw_zero]
  | succ n ih =>
    rw [← Nat.add_assoc]
    simp only [comb, ih, pw_xor, pw_ite]
    rw [pw_add, show i + n - i = n by omega]
    have : (!decide (i + n < i)) = true := by simp
    rw [this, Bool.true_and]

theorem pw_e0 (k : Nat) (h : k < 32) : pw k e0 = BitVec.twoPow 32 (31 - k) := by
  have all : ∀ j : Fin 32, pw j.val e0 = BitVec.twoPow 32 (31 - j.val) := by decide +kernel
  exact all ⟨k, h⟩

theorem comb_e0_bit (f : Nat → Bool) (n : Nat) (hn : n ≤ 32) (i : Nat) (hi : i < 32) : (comb f n e0).getLsbD i = (decide (31 - i < n) && f (31 - i)) := by
  induction n with
  | zero => simp [comb]
  | succ n ih =>
    simp only [comb]
    rw [BitVec.getLsbD_xor, ih (by omega), pw_e0 n (by omega)]
    by_cases hc : n = 31 - i
    · subst hc
      have h1 : 31 - (31 - i) = i := by omega
      cases f (31 - i) <;> simp [h1, hi]
    · have h1 : decide (31 - n = i) = false := by simp; omega
      have h2 : decide (31 - i < n + 1) = decide (31 - i < n) := by simp; omega
      rw [h2]
      cases f n <;> simp [BitVec.getLsbD_twoPow, h1]

theorem comb_self (b : BitVec 32) : comb (fun k => b.getLsbD (31 - k)) 32 e0 = b := by
  apply BitVec.eq_of_getLsbD_eq
  intro i hi
  rw [comb_e0_bit _ 32 (by omega) i hi]
  have h1 : decide (31 - i < 32) = true := by simp; omega
  rw [h1, Bool.true_and, show 31 - (31 - i) = i by omega]

theorem mul_comm (a b : BitVec 32) : mul a b = mul b a := by
  have h : ∀ a b : BitVec 32, mul a b = comb (fun k => a.getLsbD (31 - k)) 32 (comb (fun k => b.getLsbD (31 - k)) 32 e0) := by
    intro a b; rw [comb_self]; rfl
  rw [h a b, comb_comm, ← h b a]

theorem mul_e0 (a : BitVec 32) : mul a e0 = a := comb_self a

theorem e0_mul (a : BitVec 32) : mul e0 a = a := by rw [mul_comm, mul_e0]

theorem mul_pw_right (a b : BitVec 32) (k : Nat) : mul a (pw k b) = pw k (mul a b) := comb_pw _ _ _ _

theorem mul_pw_left (a b : BitVec 32) (k : Nat) : mul (pw k a) b = pw k (mul a b) := by
  rw [mul_comm, mul_pw_right, mul_comm b a]

end Go.Proofs.Qxb6002358a.CrcMath
