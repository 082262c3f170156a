/-
  The plain mathematics of the audit path's shape: peaks, the split at the largest power of two. No program in sight.
-/
import Derived.Test.Qxb6002358aLogMath
import Derived.Lib.BitFns
namespace Go.Proofs.Qxb6002358a.Path
open Pop (pop popF pop_half pop_le64)

theorem bitLen_of (f : Nat) : ∀ t x, t < f → 2 ^ t ≤ x → x < 2 ^ (t + 1) → Go.Lib.bitLenAux f x = t + 1 := by
  induction f with
  | zero => intro t x h; omega
  | succ f ih =>
    intro t x ht h1 h2
    have hp : 0 < 2 ^ t := Nat.two_pow_pos t
    simp only [Go.Lib.bitLenAux]
    rw [if_neg (by omega)]
    cases t with
    | zero =>
      have hx : x = 1 := by simp at h1 h2; omega
      subst hx
      have : ∀ g, Go.Lib.bitLenAux g (1 / 2) = 0 := by
        intro g; cases g <;> simp [Go.Lib.bitLenAux]
      rw [this]
    | succ t =>
      rw [ih t (x / 2) (by omega) (by rw [Nat.pow_succ] at h1; omega) (by rw [Nat.pow_succ] at h2; omega)]
      omega

theorem pop_double (y : Nat) (h : 2 * y < 2 ^ 64) : pop (2 * y) = pop y := by
  rw [pop_half _ h, show 2 * y % 2 = 0 by omega, show 2 * y / 2 = y by omega, Nat.zero_add]

theorem pop_double_one (y : Nat) (h : 2 * y + 1 < 2 ^ 64) : pop (2 * y + 1) = pop y + 1 := by
  rw [pop_half _ h, show (2 * y + 1) % 2 = 1 by omega, show (2 * y + 1) / 2 = y by omega, Nat.add_comm]

theorem pop_shift (d h : Nat) (hb : h * 2 ^ d < 2 ^ 64) : pop (h * 2 ^ d) = pop h := by
  induction d with
  | zero => simp
  | succ d ih =>
    have e : h * 2 ^ (d + 1) = 2 * (h * 2 ^ d) := by rw [Nat.pow_succ, ← Nat.mul_assoc, Nat.mul_comm]
    rw [e] at hb ⊢
    rw [pop_double _ hb, ih (by omega)]

/-- the leaf I of S leaves lies in the peak of 2^t leaves; r: there are peaks to its right; l: how many to its left. -/
def Fin (S I t : Nat) (r : Bool) (l : Nat) : Prop :=
  ∃ h q m, S = h * 2 ^ (t + 1) + (2 ^ t + q) ∧ q < 2 ^ t ∧ I = h * 2 ^ (t + 1) + m ∧ m < 2 ^ t ∧ r = !(q == 0) ∧ l = pop h

/-- on the way down: l peaks lie to the left; n leaves are left, and the leaf is the m-th of them. -/
def Way (S I n m l : Nat) : Prop :=
  ∃ h e, S = h * 2 ^ e + n ∧ I = h * 2 ^ e + m ∧ m < n ∧ n < 2 ^ e ∧ l = pop h ∧ l + e ≤ 64

theorem way_start {S I : Nat} (h : I < S) (hS : S < 2 ^ 64) : Way S I S I 0 :=
  ⟨0, 64, by omega, by omega, h, hS, rfl, by omega⟩

theorem pow_lt_of {t e n : Nat} (h1 : 2 ^ t ≤ n) (h2 : n < 2 ^ e) : t < e :=
  (Nat.pow_lt_pow_iff_right (by omega : 1 < 2)).1 (Nat.lt_of_le_of_lt h1 h2)

theorem split_pow (h e t : Nat) (ht : t < e) : h * 2 ^ e = (h * 2 ^ (e - t - 1)) * 2 ^ (t + 1) := by
  rw [Nat.mul_assoc, ← Nat.pow_add, show e - t - 1 + (t + 1) = e by omega]

theorem mul_le_self_pow (x t : Nat) : x ≤ x * 2 ^ t := Nat.le_mul_of_pos_right x (Nat.two_pow_pos t)

theorem way_left {S I n m l t : Nat} (hS : S < 2 ^ 64) (h : Way S I n m l) (h1 : 2 ^ t < n) (h2 : n ≤ 2 ^ (t + 1)) (hm : 2 ^ t ≤ m) : n - 2 ^ t ≤ 2 ^ t ∧ m - 2 ^ t < n - 2 ^ t ∧ (n < 2 ^ (t + 1) → Way S I (n - 2 ^ t) (m - 2 ^ t) (l + 1)) := by
  obtain ⟨h, e, hs, hi, hmn, hne, hl, hle⟩ := h
  have ht : t < e := pow_lt_of (by omega) hne
  have hsp := split_pow h e t ht
  have hp : 2 ^ (t + 1) = 2 ^ t + 2 ^ t := by rw [Nat.pow_succ]; omega
  have hc : (2 * (h * 2 ^ (e - t - 1)) + 1) * 2 ^ t = h * 2 ^ (e - t - 1) * 2 ^ (t + 1) + 2 ^ t := by
    rw [Nat.add_mul, Nat.one_mul, Nat.mul_comm 2, Nat.mul_assoc, Nat.mul_comm 2 (2 ^ t), ← Nat.pow_succ]
  refine ⟨by omega, by omega, fun h3 => ⟨2 * (h * 2 ^ (e - t - 1)) + 1, t, ?_, ?_, by omega, by omega, ?_, by omega⟩⟩
  · rw [hc]; omega
  · rw [hc]; omega
  · have hb : 2 * (h * 2 ^ (e - t - 1)) + 1 ≤ (2 * (h * 2 ^ (e - t - 1)) + 1) * 2 ^ t := mul_le_self_pow _ _
    rw [pop_double_one _ (by omega), pop_shift _ _ (by omega), hl]

theorem way_right {S I n m l t : Nat} (hS : S < 2 ^ 64) (h : Way S I n m l) (h1 : 2 ^ t < n) (h2 : n < 2 ^ (t + 1)) (hm : m < 2 ^ t) : Fin S I t true l := by
  obtain ⟨h, e, hs, hi, hmn, hne, hl, hle⟩ := h
  have ht : t < e := pow_lt_of (by omega) hne
  have hsp := split_pow h e t ht
  have hp : 2 ^ (t + 1) = 2 ^ t + 2 ^ t := by rw [Nat.pow_succ]; omega
  have hb := mul_le_self_pow (h * 2 ^ (e - t - 1)) (t + 1)
  refine ⟨h * 2 ^ (e - t - 1), n - 2 ^ t, m, by omega, by omega, by omega, hm, ?_, ?_⟩
  · have : (n - 2 ^ t == 0) = false := by simp; omega
    rw [this]; rfl
  · rw [pop_shift _ _ (by omega), hl]

theorem way_perfect {S I n m l t : Nat} (hS : S < 2 ^ 64) (h : Way S I n m l) (h1 : n = 2 ^ t) : Fin S I t false l := by
  obtain ⟨h, e, hs, hi, hmn, hne, hl, hle⟩ := h
  have ht : t < e := pow_lt_of (by omega) hne
  have hsp := split_pow h e t ht
  have hb := mul_le_self_pow (h * 2 ^ (e - t - 1)) (t + 1)
  have hp : 0 < 2 ^ t := Nat.two_pow_pos t
  refine ⟨h * 2 ^ (e - t - 1), 0, m, by omega, by omega, by omega, by omega, rfl, ?_⟩
  rw [pop_shift _ _ (by omega), hl]

theorem fin_t {S I t l : Nat} {r : Bool} (hS : S < 2 ^ 64) (h : Fin S I t r l) : t < 64 := by
  obtain ⟨h, q, m, hs, hq, hi, hm, hr, hl⟩ := h
  exact pow_lt_of (n := S) (by omega) hS

theorem fin_l {S I t l : Nat} {r : Bool} (h : Fin S I t r l) : l ≤ 64 := by
  obtain ⟨h, q, m, hs, hq, hi, hm, hr, hl⟩ := h
  rw [hl]; exact pop_le64 h

/-! what pathShape computes, at such a leaf -/

theorem xor_common (h a b s : Nat) (ha : a < 2 ^ s) (hb : b < 2 ^ s) : (h * 2 ^ s + a) ^^^ (h * 2 ^ s + b) = a ^^^ b := by
  apply Nat.eq_of_testBit_eq
  intro i
  rw [Nat.testBit_xor, Nat.testBit_xor, Nat.mul_comm h]
  by_cases hi : i < s
  · rw [Nat.testBit_two_pow_mul_add h ha i, Nat.testBit_two_pow_mul_add h hb i, if_pos hi, if_pos hi]
  · rw [Nat.testBit_two_pow_mul_add h ha i, Nat.testBit_two_pow_mul_add h hb i, if_neg hi, if_neg hi, Bool.xor_self]
    have h1 : a < 2 ^ i := Nat.lt_of_lt_of_le ha (Nat.pow_le_pow_right (by omega) (by omega))
    have h2 : b < 2 ^ i := Nat.lt_of_lt_of_le hb (Nat.pow_le_pow_right (by omega) (by omega))
    rw [Nat.testBit_lt_two_pow h1, Nat.testBit_lt_two_pow h2]; rfl

theorem fin_xor {S I t l : Nat} {r : Bool} (h : Fin S I t r l) : 2 ^ t ≤ I ^^^ S ∧ I ^^^ S < 2 ^ (t + 1) := by
  obtain ⟨h, q, m, hs, hq, hi, hm, hr, hl⟩ := h
  have hp : 2 ^ (t + 1) = 2 ^ t + 2 ^ t := by rw [Nat.pow_succ]; omega
  rw [hs, hi, xor_common h m (2 ^ t + q) (t + 1) (by omega) (by omega)]
  refine ⟨?_, Nat.xor_lt_two_pow (by omega) (by omega)⟩
  apply Nat.ge_two_pow_of_testBit
  rw [Nat.testBit_xor, Nat.testBit_lt_two_pow hm]
  have : (2 ^ t + q).testBit t = true := by
    rw [Nat.testBit_two_pow_add_eq, Nat.testBit_lt_two_pow hq]; rfl
  rw [this]; rfl

theorem fin_len {S I t l : Nat} {r : Bool} (hS : S < 2 ^ 64) (h : Fin S I t r l) : Go.Lib.bitLen (I ^^^ S) = t + 1 :=
  bitLen_of 64 t _ (fin_t hS h) (fin_xor h).1 (fin_xor h).2

theorem fin_right {S I t l : Nat} {r : Bool} (h : Fin S I t r l) : (!(S &&& (2 ^ t - 1) == 0)) = r := by
  obtain ⟨h, q, m, hs, hq, hi, hm, hr, hl⟩ := h
  rw [Nat.and_two_pow_sub_one_eq_mod, hs, hr]
  have : (h * 2 ^ (t + 1) + (2 ^ t + q)) % 2 ^ t = q := by
    rw [show h * 2 ^ (t + 1) + (2 ^ t + q) = q + 2 ^ t * (h * 2 + 1) by rw [Nat.pow_succ, Nat.mul_add, ← Nat.mul_assoc, Nat.mul_comm (h * 2 ^ t) 2, Nat.mul_comm (2 ^ t) (h * 2), Nat.mul_comm h 2, Nat.mul_assoc]; omega]
    rw [Nat.add_mul_mod_self_left, Nat.mod_eq_of_lt hq]
  rw [this]

theorem fin_left {S I t l : Nat} {r : Bool} (h : Fin S I t r l) : pop (S / 2 ^ (t + 1)) = l := by
  obtain ⟨h, q, m, hs, hq, hi, hm, hr, hl⟩ := h
  have hp : 2 ^ (t + 1) = 2 ^ t + 2 ^ t := by rw [Nat.pow_succ]; omega
  have : S / 2 ^ (t + 1) = h := by
    rw [hs, Nat.add_comm, Nat.add_mul_div_right _ _ (Nat.two_pow_pos _), Nat.div_eq_of_lt (by omega)]; omega
  rw [this, hl]

/-! a power of two, by its bits -/

theorem perfect_yes (t : Nat) : 2 ^ t &&& (2 ^ t - 1) = 0 := by
  rw [Nat.and_two_pow_sub_one_eq_mod, Nat.mod_self]

theorem perfect_no {n t : Nat} (h1 : 2 ^ t < n) (h2 : n < 2 ^ (t + 1)) : n &&& (n - 1) ≠ 0 := by
  intro h
  have b : ∀ x, 2 ^ t ≤ x → x < 2 ^ (t + 1) → x.testBit t = true := by
    intro x hx hy
    have e : x = 2 ^ t + (x - 2 ^ t) := by omega
    have hp : 2 ^ (t + 1) = 2 ^ t + 2 ^ t := by rw [Nat.pow_succ]; omega
    rw [e, Nat.testBit_two_pow_add_eq, Nat.testBit_lt_two_pow (by omega)]; rfl
  have := congrArg (fun z => z.testBit t) h
  simp [Nat.testBit_and, b n (by omega) h2, b (n - 1) (by omega) (by omega)] at this

/-- n is no power of two. -/
def Odd (n : Nat) : Prop := ∃ t, 2 ^ t < n ∧ n < 2 ^ (t + 1)

theorem odd_or (n : Nat) (h : 1 ≤ n) : Odd n ∨ ∃ t, n = 2 ^ t := by
  have h1 : 2 ^ n.log2 ≤ n := Nat.log2_self_le (by omega)
  have h2 : n < 2 ^ (n.log2 + 1) := Nat.lt_log2_self
  by_cases he : n = 2 ^ n.log2
  · exact Or.inr ⟨_, he⟩
  · exact Or.inl ⟨n.log2, by omega, h2⟩

theorem pow_unique {n s t : Nat} (h1 : 2 ^ s < n) (h2 : n ≤ 2 ^ (s + 1)) (h3 : 2 ^ t < n) (h4 : n ≤ 2 ^ (t + 1)) : s = t := by
  have a : s < t + 1 := (Nat.pow_lt_pow_iff_right (by omega : 1 < 2)).1 (Nat.lt_of_lt_of_le h1 h4)
  have b : t < s + 1 := (Nat.pow_lt_pow_iff_right (by omega : 1 < 2)).1 (Nat.lt_of_lt_of_le h3 h2)
  omega

/-- the loop of the law, at a round's head: i inner, r right, l left, st steps; m of n. -/
def Inv (S I i : Nat) (r : Bool) (l st m n : Nat) : Prop :=
  (i = 0 ∧ r = false ∧ st = l ∧ Odd n ∧ Way S I n m l) ∨ (∃ j, n = 2 ^ j ∧ m < n ∧ st = l + r.toNat + i ∧ Fin S I (i + j) r l)

theorem inv_of_way {S I l m n : Nat} (hS : S < 2 ^ 64) (h : Way S I n m l) (hn : 1 ≤ n) : Inv S I 0 false l l m n := by
  rcases odd_or n hn with ho | ⟨t, ht⟩
  · exact Or.inl ⟨rfl, rfl, rfl, ho, h⟩
  · refine Or.inr ⟨t, ht, ?_, by simp, ?_⟩
    · obtain ⟨_, _, _, _, h3, _⟩ := h; exact h3
    · rw [Nat.zero_add]; exact way_perfect hS h ht

theorem inv_start {S I : Nat} (h : I < S) (hS : S < 2 ^ 64) : Inv S I 0 false 0 0 I S := inv_of_way hS (way_start h hS) (by omega)

theorem inv_bounds {S I i : Nat} {r : Bool} {l st m n : Nat} (hS : S < 2 ^ 64) (h : Inv S I i r l st m n) : i ≤ 63 ∧ l ≤ 64 ∧ st ≤ 128 ∧ m < n ∧ 1 ≤ n := by
  rcases h with ⟨h1, h2, h3, h4, h5⟩ | ⟨j, h1, h2, h3, h4⟩
  · obtain ⟨h, e, hs, hi, hmn, hne, hl, hle⟩ := h5
    exact ⟨by omega, by omega, by omega, hmn, by omega⟩
  · have a := fin_t hS h4
    have b := fin_l h4
    have c : r.toNat ≤ 1 := Bool.toNat_le r
    exact ⟨by omega, b, by omega, h2, by omega⟩

/-- n is a power of two and more than one. -/
theorem inv_inner {S I i : Nat} {r : Bool} {l st m n t : Nat} (h : Inv S I i r l st m n) (hp : n = 2 ^ (t + 1)) :
    (m < 2 ^ t → Inv S I (i + 1) r l (st + 1) m (2 ^ t)) ∧ (2 ^ t ≤ m → Inv S I (i + 1) r l (st + 1) (m - 2 ^ t) (n - 2 ^ t)) := by
  have hpp : 2 ^ (t + 1) = 2 ^ t + 2 ^ t := by rw [Nat.pow_succ]; omega
  rcases h with ⟨h1, h2, h3, ⟨s, h4, h4'⟩, h5⟩ | ⟨j, h1, h2, h3, h4⟩
  · exfalso
    rw [hp] at h4 h4'
    have a : s < t + 1 := (Nat.pow_lt_pow_iff_right (by omega : 1 < 2)).1 h4
    have b : t + 1 < s + 1 := (Nat.pow_lt_pow_iff_right (by omega : 1 < 2)).1 h4'
    omega
  · have hj : j = t + 1 := by
      rw [hp] at h1
      exact (Nat.pow_right_inj (by omega : 1 < 2)).1 h1.symm
    subst hj
    refine ⟨fun hm => Or.inr ⟨t, rfl, hm, by omega, ?_⟩, fun hm => Or.inr ⟨t, by omega, by omega, by omega, ?_⟩⟩
    · rw [show i + 1 + t = i + (t + 1) by omega]; exact h4
    · rw [show i + 1 + t = i + (t + 1) by omega]; exact h4

/-- n is no power of two. -/
theorem inv_outer {S I i : Nat} {r : Bool} {l st m n t : Nat} (hS : S < 2 ^ 64) (h : Inv S I i r l st m n) (h1 : 2 ^ t < n) (h2 : n < 2 ^ (t + 1)) :
    r = false ∧ (m < 2 ^ t → Inv S I i true l (st + 1) m (2 ^ t)) ∧ (2 ^ t ≤ m → Inv S I i r (l + 1) (st + 1) (m - 2 ^ t) (n - 2 ^ t)) := by
  rcases h with ⟨k1, k2, k3, k4, k5⟩ | ⟨j, k1, k2, k3, k4⟩
  · subst k1 k2 k3
    refine ⟨rfl, fun hm => Or.inr ⟨t, rfl, hm, by simp, ?_⟩, fun hm => ?_⟩
    · rw [Nat.zero_add]; exact way_right hS k5 h1 h2 hm
    · have hw := way_left hS k5 h1 (by omega) hm
      exact inv_of_way hS (hw.2.2 h2) (by omega)
  · exfalso
    rw [k1] at h1 h2
    have a : t < j := (Nat.pow_lt_pow_iff_right (by omega : 1 < 2)).1 h1
    have b : j < t + 1 := (Nat.pow_lt_pow_iff_right (by omega : 1 < 2)).1 h2
    omega

/-- the loop is left. -/
theorem inv_end {S I i : Nat} {r : Bool} {l st m n : Nat} (h : Inv S I i r l st m n) (hn : n = 1) : m = 0 ∧ Fin S I i r l := by
  rcases h with ⟨h1, h2, h3, ⟨s, h4, h4'⟩, h5⟩ | ⟨j, h1, h2, h3, h4⟩
  · exfalso
    have := Nat.two_pow_pos s
    omega
  · have hj : j = 0 := by
      cases j with
      | zero => rfl
      | succ j => exfalso; rw [hn, Nat.pow_succ] at h1; omega
    subst hj
    exact ⟨by omega, h4⟩

end Go.Proofs.Qxb6002358a.Path
