/-
  The walks of crcMultiply and of its thin shim.
-/
import Derived.Test.Qxb6002358aProg
import Derived.Test.Qxb6002358aCrcMath
import Derived.WalkKit
import Derived.ProofKit
namespace Go.Proofs.Qxb6002358a
open Go.RowKit

theorem and_one_u32 (x : Nat) (h : x < 4294967296) : bits .and .u32 (x : Int) 1 = ((x % 2 : Nat) : Int) := by
  have := u32_and_nat x 1 h (by omega)
  simpa [Nat.and_one_is_mod] using this

theorem mx_step (B : BitVec 32) :
    bits .xor .u32 ((B.toNat : Int) / 2) (bits .and .u32 2197175160 (-bits .and .u32 (B.toNat : Int) 1 % 4294967296)) = ((CrcMath.mx B).toNat : Int) := by
  have hB : B.toNat < 4294967296 := B.isLt
  rw [and_one_u32 _ hB]
  have hd : ((B.toNat : Int) / 2) = ((B.toNat / 2 : Nat) : Int) := by omega
  rw [hd]
  unfold CrcMath.mx
  rw [BitVec.toNat_xor, BitVec.toNat_ushiftRight, Nat.shiftRight_eq_div_pow]
  have hb : B.getLsbD 0 = decide (B.toNat % 2 = 1) := by simp [BitVec.getLsbD, Nat.testBit_zero]
  rw [hb]
  rcases Nat.mod_two_eq_zero_or_one B.toNat with h | h
  · rw [h]
    have := u32_and_nat 2197175160 0 (by omega) (by omega)
    simp only [Nat.and_zero] at this
    simp only [Int.natCast_zero, Int.neg_zero, Int.zero_emod] at this ⊢
    have h2 := u32_xor_nat (B.toNat / 2) 0 (by omega) (by omega)
    simp only [Int.natCast_zero] at h2
    rw [show bits .and .u32 2197175160 0 = 0 from this, h2]
    simp
  · rw [h]
    have := u32_and_nat 2197175160 4294967295 (by omega) (by omega)
    have e : (-((1 : Nat) : Int) % 4294967296) = 4294967295 := by decide
    rw [e]
    have e2 : (2197175160 &&& 4294967295 : Nat) = 2197175160 := by decide
    rw [e2] at this
    have h2 := u32_xor_nat (B.toNat / 2) 2197175160 (by omega) (by omega)
    rw [show bits .and .u32 2197175160 4294967295 = ((2197175160 : Nat) : Int) from this, h2]
    simp

theorem bit_test32 (A : BitVec 32) (j : Nat) :
    (bits .and .u32 ((A.toNat : Int) / 2 ^ j) 1 == 1) = A.getLsbD j := by
  have hA : A.toNat < 4294967296 := A.isLt
  have e : ((A.toNat : Int) / 2 ^ j) = ((A.toNat / 2 ^ j : Nat) : Int) := by simp
  rw [e, and_one_u32 _ (Nat.lt_of_le_of_lt (Nat.div_le_self _ _) hA)]
  simp only [BitVec.getLsbD, Nat.testBit_eq_decide_div_mod_eq]
  rw [Bool.eq_iff_iff]; simp
  omega

theorem hide {p : Prop} (h : p) : Hid p := h
theorem unhide {p : Prop} (h : Hid p) : p := h.out

/-- crcMultiply on Int's spelling. -/
def mulI (a b : Int) : Int := ((CrcMath.mul (BitVec.ofInt 32 a) (BitVec.ofInt 32 b)).toNat : Int)

theorem ofInt32 (a : Int) (h0 : 0 ≤ a) (h1 : a < 4294967296) : ((BitVec.ofInt 32 a).toNat : Int) = a := by
  rw [BitVec.toNat_ofInt]; omega

theorem mulI_comm (a b : Int) : mulI a b = mulI b a := by unfold mulI; rw [CrcMath.mul_comm]

theorem mulI_lo (a b : Int) : 0 ≤ mulI a b := by unfold mulI; omega
theorem mulI_hi (a b : Int) : mulI a b < 4294967296 := by
  unfold mulI; have := (CrcMath.mul (BitVec.ofInt 32 a) (BitVec.ofInt 32 b)).isLt; omega

theorem mulI_one (a : Int) (h0 : 0 ≤ a) (h1 : a < 4294967296) : mulI a 2147483648 = a := by
  unfold mulI
  have : BitVec.ofInt 32 2147483648 = CrcMath.e0 := by decide
  rw [this, CrcMath.mul_e0, ofInt32 a h0 h1]

/-- what the loop's variables hold at the head of round k. -/
def mulRel (A B : BitVec 32) (k bb pp : Nat) : Prop :=
  bb = (CrcMath.pw k B).toNat ∧ pp = (CrcMath.comb (fun k => A.getLsbD (31 - k)) k B).toNat

set_option maxHeartbeats 400000 in
theorem crcMultiply_nat (A B : BitVec 32) (n m : Nat) (w : World) (_hn : n < 4294967296) (hm : m < 4294967296) (HA : Hid (n = A.toNat)) (HB : Hid (m = B.toNat)) :
    Calls Try.prog 25 #[.int .u32 n, .int .u32 m] w fun e w' => e = .returned (.int .u32 ((CrcMath.mul A B).toNat : Int)) ∧ w' = w := by
  go_enter Try.func25, Try.ntmps25
  go_wp2
  go_loop [1, 5, 6] (fun t1 t5 t6 => ∃ k bb pp : Nat, k ≤ 32 ∧ bb < 4294967296 ∧ pp < 4294967296 ∧ t6 = .int .i64 (31 - k) ∧ t1 = .int .u32 bb ∧ t5 = .int .u32 pp ∧ mulRel A B k bb pp) (fun _ _ t6 => (intOf t6 + 1).toNat)
  case atStart =>
    exact ⟨0, m, 0, by omega, by omega, by omega, rfl, rfl, rfl, ⟨by rw [HB.out]; rfl, rfl⟩⟩
  case round =>
    obtain ⟨k, bb, pp, hk, hbb, hpp, rfl, rfl, rfl, hr⟩ := hrel
    have Hbb := hide hr.1
    have Hpp := hide hr.2
    clear hr
    by_cases hlt : k < 32
    · have hbit := bit_test32 A (31 - k)
      have hmx := mx_step (CrcMath.pw k B)
      rw [← HA.out] at hbit
      rw [← Hbb.out] at hmx
      have Hmx := hide hmx
      have Hbit := hide hbit
      clear hbit hmx
      have hxb := u32_xor_nat pp bb hpp hbb
      have Hxb := hide hxb
      clear hxb
      go_wp2
      all_goals
        go_round
        case measure => simp [intOf]; omega
      case rel =>
        refine ⟨k + 1, (CrcMath.pw (k + 1) B).toNat, (CrcMath.comb (fun k => A.getLsbD (31 - k)) (k + 1) B).toNat, by omega, BitVec.isLt _, BitVec.isLt _, by go_num, ?_, ?_, ⟨rfl, rfl⟩⟩
        · rw [unhide Hmx]; rfl
        · rw [unhide Hxb, Hbb.out, Hpp.out]
          simp only [CrcMath.comb]
          have hb1 : A.getLsbD (31 - k) = true := by rw [← unhide Hbit]; assumption
          rw [hb1, cond_true, BitVec.toNat_xor]
      case rel =>
        refine ⟨k + 1, (CrcMath.pw (k + 1) B).toNat, (CrcMath.comb (fun k => A.getLsbD (31 - k)) (k + 1) B).toNat, by omega, BitVec.isLt _, BitVec.isLt _, by go_num, ?_, ?_, ⟨rfl, rfl⟩⟩
        · rw [unhide Hmx]; rfl
        · rw [Hpp.out]
          simp only [CrcMath.comb]
          have hb1 : A.getLsbD (31 - k) = false := by rw [← unhide Hbit]; assumption
          rw [hb1, cond_false, BitVec.xor_zero]
    · have hk32 : k = 32 := by omega
      subst hk32
      go_wp2
      go_ret
      refine ⟨?_, rfl⟩
      rw [Hpp.out]
      rfl

theorem crcMultiply_any (a b : Int) (w : World) (ha0 : 0 ≤ a) (ha : a < 4294967296) (hb0 : 0 ≤ b) (hb : b < 4294967296) :
    Calls Try.prog 25 #[.int .u32 a, .int .u32 b] w fun e w' => e = .returned (.int .u32 (mulI a b)) ∧ w' = w := by
  have h1 := ofInt32 a ha0 ha
  have h2 := ofInt32 b hb0 hb
  have h := crcMultiply_nat (BitVec.ofInt 32 a) (BitVec.ofInt 32 b) (BitVec.ofInt 32 a).toNat (BitVec.ofInt 32 b).toNat w (BitVec.isLt _) (BitVec.isLt _) (hide rfl) (hide rfl)
  rw [h1, h2] at h
  exact h

set_option maxHeartbeats 400000 in
theorem zzcrcMultiply_any (a b : Int) (w : World) (ha0 : 0 ≤ a) (ha : a < 4294967296) (hb0 : 0 ≤ b) (hb : b < 4294967296) :
    Calls Try.prog 13 #[.int .u32 a, .int .u32 b] w fun e w' => e = .returned (.int .u32 (mulI a b)) ∧ w' = w := by
  go_enter Try.func13, Try.ntmps13
  go_wp2_with (go_at_call 25; refine (crcMultiply_any _ _ _ (by assumption) (by assumption) (by assumption) (by assumption)).mono ?_; rintro e w' ⟨rfl, rfl⟩)
  go_ret
  exact ⟨rfl, rfl⟩

end Go.Proofs.Qxb6002358a
