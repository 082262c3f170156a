/-
  The plain mathematics of the schoolbook model: reversal of 32 bits, carry-less product into 63 bits, long division; that it comes to the same as crcMultiply.
-/
import Derived.Test.Qxb6002358aCrcMath
namespace Go.Proofs.Qxb6002358a.CrcMath

/-- the loop of zzRev32 behind k rounds. -/
def rv (x : BitVec 32) : Nat → BitVec 32
  | 0 => 0#32
  | k + 1 => (rv x k <<< 1) ||| ((x >>> k) &&& 1#32)

def rev (x : BitVec 32) : BitVec 32 := rv x 32

theorem rv_bit (x : BitVec 32) (k : Nat) (hk : k ≤ 32) (i : Nat) (hi : i < 32) : (rv x k).getLsbD i = (decide (i < k) && x.getLsbD (k - 1 - i)) := by
  induction k generalizing i with
  | zero => simp [rv]
  | succ k ih =>
    simp only [rv]
    rw [BitVec.getLsbD_or, BitVec.getLsbD_and, BitVec.getLsbD_shiftLeft, BitVec.getLsbD_ushiftRight]
    cases i with
    | zero => simp
    | succ j =>
      rw [ih (by omega) _ (by omega)]
      have h1 : (1#32).getLsbD (j + 1) = false := by simp [BitVec.getLsbD_one]
      have h2 : j + 1 - 1 = j := by omega
      have h3 : k + 1 - 1 - (j + 1) = k - 1 - j := by omega
      have h4 : decide (j + 1 < 32) = true := by simp; omega
      have h5 : decide (j + 1 < 1) = false := by simp
      have h6 : decide (j + 1 < k + 1) = decide (j < k) := by simp
      rw [h1, h2, h3, h4, h5, h6]
      simp

theorem rev_bit (x : BitVec 32) (i : Nat) (hi : i < 32) : (rev x).getLsbD i = x.getLsbD (31 - i) := by
  unfold rev
  rw [rv_bit x 32 (by omega) i hi]
  have : decide (i < 32) = true := by simp; omega
  rw [this, Bool.true_and]

/-- the loop of the carry-less product behind k rounds. -/
def pm (a b : BitVec 32) : Nat → BitVec 64
  | 0 => 0#64
  | k + 1 => pm a b k ^^^ (bif b.getLsbD k then a.setWidth 64 <<< k else 0#64)

def full : BitVec 64 := 4812730177#64

/-- the loop of the long division behind k rounds. -/
def rd (p : BitVec 64) : Nat → BitVec 64
  | 0 => p
  | k + 1 => rd p k ^^^ (bif (rd p k).getLsbD (62 - k) then full <<< (30 - k) else 0#64)

def model (a b : BitVec 32) : BitVec 32 := rev ((rd (pm (rev a) (rev b) 32) 31).setWidth 32)

theorem comb_cut (f : Nat → Bool) (m n : Nat) (b : BitVec 32) (hmn : m ≤ n) (h : ∀ k, m ≤ k → f k = false) : comb f n b = comb f m b := by
  have e := comb_trunc f m (n - m) b h
  rwa [show m + (n - m) = n by omega] at e

def phi (p : BitVec 64) : BitVec 32 := comb p.getLsbD 64 e0

theorem phi_xor (p q : BitVec 64) : phi (p ^^^ q) = phi p ^^^ phi q := by
  unfold phi
  rw [← comb_fxor]
  exact comb_congr _ _ _ _ (fun k _ => BitVec.getLsbD_xor)

theorem phi_zero : phi 0#64 = 0#32 := by
  have h : ∀ n, comb (0#64).getLsbD n e0 = 0#32 := by
    intro n; induction n with
    | zero => rfl
    | succ n ih => simp [comb, ih]
  exact h 64

theorem phi_shift (x : BitVec 64) (n i : Nat) (hn : n + i ≤ 64) (hx : ∀ k, n ≤ k → x.getLsbD k = false) : phi (x <<< i) = pw i (comb x.getLsbD n e0) := by
  unfold phi
  rw [← comb_shift]
  rw [comb_congr (x <<< i).getLsbD (fun k => !decide (k < i) && x.getLsbD (k - i)) 64 e0
    (fun k hk => by rw [BitVec.getLsbD_shiftLeft]; have : decide (k < 64) = true := by simp; omega
                    rw [this, Bool.true_and])]
  apply comb_cut _ _ _ _ (by omega)
  intro k hk
  rw [hx (k - i) (by omega), Bool.and_false]

theorem phi_pm (a b : BitVec 32) (k : Nat) (hk : k ≤ 32) : phi (pm a b k) = comb b.getLsbD k (comb a.getLsbD 32 e0) := by
  induction k with
  | zero => simp [pm, comb, phi_zero]
  | succ k ih =>
    show phi (pm a b k ^^^ (bif b.getLsbD k then a.setWidth 64 <<< k else 0#64)) = comb b.getLsbD k (comb a.getLsbD 32 e0) ^^^ (bif b.getLsbD k then pw k (comb a.getLsbD 32 e0) else 0#32)
    rw [phi_xor, ih (by omega)]
    congr 1
    cases b.getLsbD k
    · simp [phi_zero]
    · simp only [cond_true]
      rw [phi_shift (a.setWidth 64) 32 k (by omega) (fun j hj => by rw [BitVec.getLsbD_setWidth, BitVec.getLsbD_of_ge a j hj, Bool.and_false])]
      rw [comb_congr (a.setWidth 64).getLsbD a.getLsbD 32 e0 (fun j hj => by rw [BitVec.getLsbD_setWidth]; have : decide (j < 64) = true := by simp; omega
                                                                             rw [this, Bool.true_and])]

theorem full_high (k : Nat) (hk : 33 ≤ k) : full.getLsbD k = false := by
  have h : full.toNat < 2 ^ k := Nat.lt_of_lt_of_le (by decide : full.toNat < 2 ^ 33) (Nat.pow_le_pow_right (by omega) hk)
  exact Nat.testBit_lt_two_pow h

theorem phi_full (j : Nat) (hj : j ≤ 30) : phi (full <<< j) = 0#32 := by
  rw [phi_shift full 33 j (by omega) full_high]
  have : comb full.getLsbD 33 e0 = 0#32 := by decide +kernel
  rw [this, pw_zero]

theorem phi_rd (p : BitVec 64) (k : Nat) : phi (rd p k) = phi p := by
  induction k with
  | zero => rfl
  | succ k ih =>
    simp only [rd]
    rw [phi_xor, ih]
    cases (rd p k).getLsbD (62 - k)
    · simp [phi_zero]
    · simp only [cond_true]; rw [phi_full _ (by omega)]; simp

theorem rd_high (p : BitVec 64) (hp : ∀ i, 63 ≤ i → p.getLsbD i = false) (k : Nat) (hk : k ≤ 31) (i : Nat) (hi : 62 < i + k) : (rd p k).getLsbD i = false := by
  induction k generalizing i with
  | zero => exact hp i (by omega)
  | succ k ih =>
    simp only [rd]
    rw [BitVec.getLsbD_xor]
    by_cases h64 : i < 64
    · by_cases hc : i = 62 - k
      · subst hc
        have h1 : (full <<< (30 - k)).getLsbD (62 - k) = true := by
          rw [BitVec.getLsbD_shiftLeft]
          have e1 : 62 - k - (30 - k) = 32 := by omega
          have e2 : decide (62 - k < 64) = true := by simp; omega
          have e3 : decide (62 - k < 30 - k) = false := by simp; omega
          have e4 : full.getLsbD 32 = true := by decide
          rw [e1, e2, e3, e4]; rfl
        cases hb : (rd p k).getLsbD (62 - k)
        · simp
        · simp only [cond_true, h1]; rfl
      · rw [ih (by omega) i (by omega)]
        have h1 : (full <<< (30 - k)).getLsbD i = false := by
          rw [BitVec.getLsbD_shiftLeft, full_high _ (by omega), Bool.and_false]
        cases (rd p k).getLsbD (62 - k)
        · simp
        · simp only [cond_true, h1]; rfl
    · rw [BitVec.getLsbD_of_ge _ _ (by omega), BitVec.getLsbD_of_ge _ _ (by omega)]; rfl

theorem pm_high (a b : BitVec 32) (k : Nat) (hk : k ≤ 32) (i : Nat) (hi : 63 ≤ i) : (pm a b k).getLsbD i = false := by
  induction k with
  | zero => simp [pm]
  | succ k ih =>
    simp only [pm]
    rw [BitVec.getLsbD_xor, ih (by omega)]
    cases b.getLsbD k
    · simp
    · simp only [cond_true]
      rw [BitVec.getLsbD_shiftLeft, BitVec.getLsbD_setWidth, BitVec.getLsbD_of_ge a (i - k) (by omega)]
      simp

theorem comb_low (x : BitVec 32) : comb x.getLsbD 32 e0 = rev x := by
  apply BitVec.eq_of_getLsbD_eq
  intro i hi
  rw [comb_e0_bit _ 32 (by omega) i hi, rev_bit x i hi]
  have h1 : decide (31 - i < 32) = true := by simp; omega
  rw [h1, Bool.true_and]

theorem rev_rev (x : BitVec 32) : rev (rev x) = x := by
  apply BitVec.eq_of_getLsbD_eq
  intro i hi
  rw [rev_bit _ i hi, rev_bit _ _ (by omega), show 31 - (31 - i) = i by omega]

theorem model_eq (a b : BitVec 32) : mul a b = model a b := by
  unfold model
  have hq : ∀ i, 32 ≤ i → (rd (pm (rev a) (rev b) 32) 31).getLsbD i = false :=
    fun i hi => rd_high _ (fun j hj => pm_high _ _ 32 (by omega) j hj) 31 (by omega) i (by omega)
  have hphi : phi (rd (pm (rev a) (rev b) 32) 31) = mul b a := by
    rw [phi_rd, phi_pm _ _ 32 (by omega), comb_low, rev_rev]
    exact comb_congr _ _ _ _ (fun k hk => rev_bit b k hk)
  generalize rd (pm (rev a) (rev b) 32) 31 = q at hq hphi
  rw [mul_comm, ← hphi, ← comb_low]
  unfold phi
  rw [comb_cut _ 32 64 _ (by omega) hq]
  exact comb_congr _ _ _ _ (fun k hk => by
    rw [BitVec.getLsbD_setWidth]; have : decide (k < 32) = true := by simp; omega
    rw [this, Bool.true_and])

end Go.Proofs.Qxb6002358a.CrcMath
