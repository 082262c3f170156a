/-
  The walks of crcShift, of its shim and of zzModelFeedZeros: each comes to x^(8n) times r.
-/
import Derived.Test.Qxb6002358aCrcWalks
namespace Go.Proofs.Qxb6002358a
open Go.RowKit

theorem and_one_i64 (x : Int) (h0 : 0 ≤ x) (h : x < 9223372036854775808) : bits .and .i64 x 1 = x % 2 := by
  show IntKind.i64.wrap ((BitVec.ofInt 64 x &&& BitVec.ofInt 64 (1 : Int)).toNat : Int) = _
  have h1 : (BitVec.ofInt 64 x).toNat = x.toNat := by rw [BitVec.toNat_ofInt]; omega
  have h2 : (BitVec.ofInt 64 (1 : Int)).toNat = 1 := by decide
  rw [BitVec.toNat_and, h1, h2, Nat.and_one_is_mod]
  simp [IntKind.wrap, IntKind.bits, IntKind.signed]
  omega

theorem ofInt_toNat (X : BitVec 32) : BitVec.ofInt 32 (X.toNat : Int) = X := by
  apply BitVec.eq_of_toNat_eq
  rw [BitVec.toNat_ofInt]
  have := X.isLt
  omega

/-- 'a' is x^p. -/
def isPow (p : Nat) (a : Int) : Prop := a = ((CrcMath.pw p CrcMath.e0).toNat : Int)

theorem isPow_mul {p q : Nat} {a b : Int} (ha : isPow p a) (hb : isPow q b) : isPow (p + q) (mulI a b) := by
  unfold isPow at *
  rw [ha, hb]
  unfold mulI
  rw [ofInt_toNat, ofInt_toNat, CrcMath.mul_pw_left, CrcMath.e0_mul, ← CrcMath.pw_add]

/-- r times x^(8n). -/
def shiftI (r n : Int) : Int := ((CrcMath.pw (8 * n.toNat) (BitVec.ofInt 32 r)).toNat : Int)

theorem isPow_shift {n r a : Int} (ha : isPow (8 * n.toNat) a) : mulI r a = shiftI r n := by
  unfold isPow at ha
  rw [ha]
  unfold mulI shiftI
  rw [ofInt_toNat, CrcMath.mul_pw_right, CrcMath.mul_e0]

/-- what crcShift's variables hold at a round's head. -/
def shRel (n m a b : Int) : Prop := ∃ p q : Nat, isPow p a ∧ isPow q b ∧ p + q * m.toNat = 8 * n.toNat

theorem shRel_start (n : Int) : shRel n n 2147483648 8388608 := ⟨0, 8, by unfold isPow; decide, by unfold isPow; decide, by omega⟩

theorem half_arith (q m : Nat) : q * m = q * (m % 2) + (q + q) * (m / 2) := by
  have h : m = m % 2 + 2 * (m / 2) := by omega
  have h2 : q * m = q * (m % 2 + 2 * (m / 2)) := by rw [← h]
  rw [h2, Nat.mul_add, Nat.add_mul, ← Nat.mul_assoc, Nat.mul_comm q 2, Nat.two_mul, Nat.add_mul]

theorem shRel_odd {n m a b : Int} (h : shRel n m a b) (h0 : 0 < m) (hm : m % 2 = 1) : shRel n (m / 2) (mulI a b) (mulI b b) := by
  obtain ⟨p, q, h1, h2, h3⟩ := h
  refine ⟨p + q, q + q, isPow_mul h1 h2, isPow_mul h2 h2, ?_⟩
  have e1 : m.toNat % 2 = 1 := by omega
  have e2 : (m / 2).toNat = m.toNat / 2 := by omega
  have := half_arith q m.toNat
  rw [e1] at this
  rw [e2]
  omega

theorem shRel_even {n m a b : Int} (h : shRel n m a b) (h0 : 0 < m) (hm : m % 2 = 0) : shRel n (m / 2) a (mulI b b) := by
  obtain ⟨p, q, h1, h2, h3⟩ := h
  refine ⟨p, q + q, h1, isPow_mul h2 h2, ?_⟩
  have e1 : m.toNat % 2 = 0 := by omega
  have e2 : (m / 2).toNat = m.toNat / 2 := by omega
  have := half_arith q m.toNat
  rw [e1] at this
  rw [e2]
  omega

theorem shRel_end {n m a b r : Int} (h : shRel n m a b) (h0 : m ≤ 0) : mulI r a = shiftI r n := by
  obtain ⟨p, q, h1, h2, h3⟩ := h
  have e : m.toNat = 0 := by omega
  rw [e] at h3
  simp at h3
  rw [h3] at h1
  exact isPow_shift h1

set_option maxHeartbeats 400000 in
theorem crcShift_any (r n : Int) (w : World) (hr0 : 0 ≤ r) (hr : r < 4294967296) (hn0 : -9223372036854775808 ≤ n) (hn : n < 9223372036854775808) :
    Calls Try.prog 27 #[.int .u32 r, .int .i64 n] w fun e w' => e = .returned (.int .u32 (shiftI r n)) ∧ w' = w := by
  go_enter Try.func27, Try.ntmps27
  go_wp2_with fail
  go_loop [1, 5, 6] (fun t1 t5 t6 => ∃ m a b : Int, -9223372036854775808 ≤ m ∧ m < 9223372036854775808 ∧ 0 ≤ a ∧ a < 4294967296 ∧ 0 ≤ b ∧ b < 4294967296 ∧ t1 = .int .i64 m ∧ t5 = .int .u32 a ∧ t6 = .int .u32 b ∧ shRel n m a b) (fun t1 _ _ => (intOf t1).toNat)
  case atStart => exact ⟨n, 2147483648, 8388608, by omega, by omega, by omega, by omega, by omega, by omega, rfl, rfl, rfl, shRel_start n⟩
  case round =>
    obtain ⟨m, a, b, hm0, hm, ha0, ha, hb0, hb, rfl, rfl, rfl, hr1⟩ := hrel
    have HR := hide hr1
    clear hr1
    by_cases hlt : 0 < m
    · have hand := hide (and_one_i64 m (by omega) hm)
      go_wp2_with (go_at_call 25; refine (crcMultiply_any _ _ _ (by assumption) (by assumption) (by assumption) (by assumption)).mono ?_; rintro e w' ⟨rfl, rfl⟩)
      all_goals
        go_round
        case measure => simp [intOf]; omega
      case rel =>
        have hb1 : (bits BinOp.and IntKind.i64 m 1 == 1) = true := by assumption
        rw [hand.out] at hb1
        exact ⟨m / 2, mulI a b, mulI b b, by omega, by omega, mulI_lo _ _, mulI_hi _ _, mulI_lo _ _, mulI_hi _ _, rfl, rfl, rfl, shRel_odd HR.out hlt (by simpa using hb1)⟩
      case rel =>
        have hb1 : (bits BinOp.and IntKind.i64 m 1 == 1) = false := by assumption
        rw [hand.out] at hb1
        have hb2 : ¬ m % 2 = 1 := by simpa using hb1
        exact ⟨m / 2, a, mulI b b, by omega, by omega, ha0, ha, mulI_lo _ _, mulI_hi _ _, rfl, rfl, rfl, shRel_even HR.out hlt (by omega)⟩
    · have hfin := hide (shRel_end (r := r) HR.out (by omega))
      go_wp2_with (go_at_call 25; refine (crcMultiply_any _ _ _ (by assumption) (by assumption) (by assumption) (by assumption)).mono ?_; rintro e w' ⟨rfl, rfl⟩)
      go_ret
      refine ⟨?_, rfl⟩
      rw [hfin.out]
      rfl

set_option maxHeartbeats 400000 in
theorem zzcrcShift_any (r n : Int) (w : World) (hr0 : 0 ≤ r) (hr : r < 4294967296) (hn0 : -9223372036854775808 ≤ n) (hn : n < 9223372036854775808) :
    Calls Try.prog 15 #[.int .u32 r, .int .i64 n] w fun e w' => e = .returned (.int .u32 (shiftI r n)) ∧ w' = w := by
  go_enter Try.func15, Try.ntmps15
  go_wp2_with fail
  refine (crcShift_any _ _ _ hr0 hr hn0 hn).mono ?_
  rintro e w1 ⟨rfl, hw1⟩
  subst hw1
  go_wp2_with fail
  go_ret
  exact ⟨rfl, rfl⟩

theorem feed_odd (B : BitVec 32) (h : (bits .and .u32 (B.toNat : Int) 1 == 1) = true) : bits .xor .u32 ((B.toNat : Int) / 2) 2197175160 = ((CrcMath.mx B).toNat : Int) := by
  have hB : B.toNat < 4294967296 := B.isLt
  rw [and_one_u32 _ hB] at h
  have h1 : B.toNat % 2 = 1 := by simp at h; omega
  have hd : ((B.toNat : Int) / 2) = ((B.toNat / 2 : Nat) : Int) := by omega
  have hb : B.getLsbD 0 = true := by simp [BitVec.getLsbD, Nat.testBit_zero, h1]
  have h2 := u32_xor_nat (B.toNat / 2) 2197175160 (by omega) (by omega)
  unfold CrcMath.mx
  rw [hb, cond_true, BitVec.toNat_xor, BitVec.toNat_ushiftRight, Nat.shiftRight_eq_div_pow, hd]
  exact h2

theorem feed_even (B : BitVec 32) (h : (bits .and .u32 (B.toNat : Int) 1 == 1) = false) : ((B.toNat : Int) / 2) = ((CrcMath.mx B).toNat : Int) := by
  have hB : B.toNat < 4294967296 := B.isLt
  rw [and_one_u32 _ hB] at h
  have h1 : B.toNat % 2 = 0 := by simp at h; omega
  have hb : B.getLsbD 0 = false := by simp [BitVec.getLsbD, Nat.testBit_zero, h1]
  unfold CrcMath.mx
  rw [hb, cond_false, BitVec.xor_zero, BitVec.toNat_ushiftRight, Nat.shiftRight_eq_div_pow]
  omega

/-- what the model's register holds behind t bits. -/
def feedRel (R : BitVec 32) (t b : Nat) : Prop := b = (CrcMath.pw t R).toNat

set_option maxHeartbeats 400000 in
theorem feed_nat (R : BitVec 32) (r : Nat) (n : Int) (w : World) (hr : r < 4294967296) (HR : Hid (r = R.toNat)) (hn0 : -9223372036854775808 ≤ n) (hn : n < 9223372036854775808) :
    Calls Try.prog 16 #[.int .u32 r, .int .i64 n] w fun e w' => e = .returned (.int .u32 ((CrcMath.pw (8 * n.toNat) R).toNat : Int)) ∧ w' = w := by
  go_enter Try.func16, Try.ntmps16
  go_wp2_with fail
  go_loop [0, 5] (fun t0 t5 => ∃ k a : Nat, k ≤ n.toNat ∧ a < 4294967296 ∧ t5 = .int .i64 k ∧ t0 = .int .u32 a ∧ feedRel R (8 * k) a) (fun _ t5 => n.toNat - (intOf t5).toNat)
  case atStart => exact ⟨0, r, by omega, hr, rfl, rfl, HR.out⟩
  case round =>
    obtain ⟨k, a, hk, ha, rfl, rfl, hr1⟩ := hrel
    have H1 := hide hr1
    clear hr1
    by_cases hlt : (k : Int) < n
    · have hx := u32_xor_nat a 0 ha (by omega)
      have Hx : Hid (bits .xor .u32 (a : Int) 0 = (a : Int)) := by
        show bits .xor .u32 (a : Int) 0 = (a : Int)
        simpa using hx
      clear hx
      go_wp2_with fail
      go_loop [0, 7] (fun t0 t7 => ∃ j b : Nat, j ≤ 8 ∧ b < 4294967296 ∧ t7 = .int .i64 j ∧ t0 = .int .u32 b ∧ feedRel R (8 * k + j) b) (fun _ t7 => 8 - (intOf t7).toNat)
      case atStart => exact ⟨0, a, by omega, ha, rfl, by rw [Hx.out], H1.out⟩
      case round =>
        obtain ⟨j, b, hj, hb, rfl, rfl, hr2⟩ := hrel
        have H2 := hide hr2
        clear hr2
        by_cases hlt2 : j < 8
        · go_wp2
          all_goals
            go_round
            case measure => simp [intOf]; omega
          case rel =>
            have hb1 : (bits BinOp.and IntKind.u32 (b : Int) 1 == 1) = true := by assumption
            have e : b = (CrcMath.pw (8 * k + j) R).toNat := H2.out
            rw [e] at hb1
            have hf := feed_odd _ hb1
            rw [← e] at hf
            exact ⟨j + 1, (CrcMath.pw (8 * k + (j + 1)) R).toNat, by omega, BitVec.isLt _, by go_num, by rw [hf]; rfl, rfl⟩
          case rel =>
            have hb1 : (bits BinOp.and IntKind.u32 (b : Int) 1 == 1) = false := by assumption
            have e : b = (CrcMath.pw (8 * k + j) R).toNat := H2.out
            rw [e] at hb1
            have hf := feed_even _ hb1
            rw [← e] at hf
            exact ⟨j + 1, (CrcMath.pw (8 * k + (j + 1)) R).toNat, by omega, BitVec.isLt _, by go_num, by rw [hf]; rfl, rfl⟩
        · have hj8 : j = 8 := by omega
          subst hj8
          go_wp2
          go_round
          case measure => simp [intOf]; omega
          case rel => exact ⟨k + 1, b, by omega, hb, by go_num, rfl, H2.out⟩
    · have hkn : k = n.toNat := by omega
      have e : a = (CrcMath.pw (8 * n.toNat) R).toNat := by rw [← hkn]; exact H1.out
      have He := hide e
      clear e hkn
      go_wp2
      go_ret
      refine ⟨?_, rfl⟩
      rw [← He.out]
      rfl

theorem feed_any (r n : Int) (w : World) (hr0 : 0 ≤ r) (hr : r < 4294967296) (hn0 : -9223372036854775808 ≤ n) (hn : n < 9223372036854775808) :
    Calls Try.prog 16 #[.int .u32 r, .int .i64 n] w fun e w' => e = .returned (.int .u32 (shiftI r n)) ∧ w' = w := by
  have e1 := ofInt32 r hr0 hr
  have h := feed_nat (BitVec.ofInt 32 r) (BitVec.ofInt 32 r).toNat n w (BitVec.isLt _) (hide rfl) hn0 hn
  rw [e1] at h
  exact h

end Go.Proofs.Qxb6002358a
