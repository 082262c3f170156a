/-
  The walks of zzRev32 and zzModelMul.
-/
import Derived.Test.Qxb6002358aCrcWalks
import Derived.Test.Qxb6002358aPolyMath
namespace Go.Proofs.Qxb6002358a
open Go.RowKit

theorem rv_step (X : BitVec 32) (k : Nat) :
    bits .or .u32 (((CrcMath.rv X k).toNat : Int) * 2 % 4294967296) (bits .and .u32 ((X >>> k).toNat : Int) 1) = ((CrcMath.rv X (k + 1)).toNat : Int) := by
  have hx : (X >>> k).toNat < 4294967296 := BitVec.isLt _
  rw [and_one_u32 _ hx]
  have e : (((CrcMath.rv X k).toNat : Int) * 2 % 4294967296) = (((CrcMath.rv X k).toNat * 2 % 4294967296 : Nat) : Int) := by omega
  rw [e, u32_or_nat _ _ (by omega) (by omega)]
  simp only [CrcMath.rv]
  rw [BitVec.toNat_or, BitVec.toNat_and, BitVec.toNat_shiftLeft, Nat.shiftLeft_eq]
  have h1 : (1#32).toNat = 1 := rfl
  rw [h1, Nat.and_one_is_mod]

/-- what zzRev32's variables hold at the head of round k. -/
def revRel (X : BitVec 32) (k xx yy : Nat) : Prop := xx = (X >>> k).toNat ∧ yy = (CrcMath.rv X k).toNat

set_option maxHeartbeats 400000 in
theorem rev32_nat (X : BitVec 32) (x : Nat) (w : World) (_hx : x < 4294967296) (HX : Hid (x = X.toNat)) :
    Calls Try.prog 26 #[.int .u32 x] w fun e w' => e = .returned (.int .u32 ((CrcMath.rev X).toNat : Int)) ∧ w' = w := by
  go_enter Try.func26, Try.ntmps26
  go_wp2
  go_loop [0, 3, 4] (fun t0 t3 t4 => ∃ k xx yy : Nat, k ≤ 32 ∧ xx < 4294967296 ∧ yy < 4294967296 ∧ t4 = .int .i64 k ∧ t0 = .int .u32 xx ∧ t3 = .int .u32 yy ∧ revRel X k xx yy) (fun _ _ t4 => (32 - intOf t4).toNat)
  case atStart => exact ⟨0, x, 0, by omega, by omega, by omega, rfl, rfl, rfl, ⟨by rw [HX.out]; simp, rfl⟩⟩
  case round =>
    obtain ⟨k, xx, yy, hk, hxx, hyy, rfl, rfl, rfl, hr⟩ := hrel
    have H1 := hide hr.1
    have H2 := hide hr.2
    clear hr
    by_cases hlt : k < 32
    · go_wp2
      go_round
      case measure => simp [intOf]; omega
      case rel =>
        refine ⟨k + 1, xx / 2, (CrcMath.rv X (k + 1)).toNat, by omega, by omega, BitVec.isLt _, by go_num, by simp, ?_, ⟨?_, rfl⟩⟩
        · have h := rv_step X k
          rw [← H1.out, ← H2.out] at h
          rw [h]
        · rw [H1.out, BitVec.toNat_ushiftRight, BitVec.toNat_ushiftRight, Nat.shiftRight_eq_div_pow, Nat.shiftRight_eq_div_pow, Nat.div_div_eq_div_mul, Nat.pow_succ]
    · have hk32 : k = 32 := by omega
      subst hk32
      go_wp2
      go_ret
      refine ⟨?_, rfl⟩
      rw [H2.out]
      rfl

def revI (x : Int) : Int := ((CrcMath.rev (BitVec.ofInt 32 x)).toNat : Int)

theorem revI_lo (x : Int) : 0 ≤ revI x := by unfold revI; omega
theorem revI_hi (x : Int) : revI x < 4294967296 := by
  unfold revI; have := (CrcMath.rev (BitVec.ofInt 32 x)).isLt; omega

theorem rev32_any (x : Int) (w : World) (h0 : 0 ≤ x) (h1 : x < 4294967296) :
    Calls Try.prog 26 #[.int .u32 x] w fun e w' => e = .returned (.int .u32 (revI x)) ∧ w' = w := by
  have e1 := ofInt32 x h0 h1
  have h := rev32_nat (BitVec.ofInt 32 x) (BitVec.ofInt 32 x).toNat w (BitVec.isLt _) (hide rfl)
  rw [e1] at h
  exact h

theorem and_one_64 (x : Nat) (h : x < 18446744073709551616) : bits .and .u64 (x : Int) 1 = ((x % 2 : Nat) : Int) := by
  have := u64_and_nat x 1 h (by omega)
  simpa [Nat.and_one_is_mod] using this

theorem bit_test64 (A : BitVec 64) (j : Nat) : (bits .and .u64 ((A.toNat : Int) / 2 ^ j) 1 == 1) = A.getLsbD j := by
  have hA : A.toNat < 18446744073709551616 := A.isLt
  have e : ((A.toNat : Int) / 2 ^ j) = ((A.toNat / 2 ^ j : Nat) : Int) := by simp
  rw [e, and_one_64 _ (Nat.lt_of_le_of_lt (Nat.div_le_self _ _) hA)]
  simp only [BitVec.getLsbD, Nat.testBit_eq_decide_div_mod_eq]
  rw [Bool.eq_iff_iff]; simp
  omega

theorem xor64_step (A B : BitVec 64) (v : Int) (h : v = (B.toNat : Int)) : bits .xor .u64 (A.toNat : Int) v = ((A ^^^ B).toNat : Int) := by
  rw [h, bits_xor_u64_nat _ _ A.isLt B.isLt, BitVec.toNat_xor]

theorem shl64_step (B : BitVec 64) (n k : Nat) (h : n = B.toNat) : IntKind.u64.wrap ((n : Int) * 2 ^ k) = ((B <<< k).toNat : Int) := by
  rw [IntKind.wrap_u64, BitVec.toNat_shiftLeft, Nat.shiftLeft_eq, ← h]
  simp

/-- what the product's loop holds at the head of round k; what the division's loop holds. -/
def pmRel (A B : BitVec 32) (k p : Nat) : Prop := p = (CrcMath.pm A B k).toNat
def rdRel (q : BitVec 64) (k p : Nat) : Prop := p = (CrcMath.rd q k).toNat

def modelI (x y : Int) : Int := ((CrcMath.model (BitVec.ofInt 32 x) (BitVec.ofInt 32 y)).toNat : Int)

theorem low32 (q : BitVec 64) : BitVec.ofInt 32 ((q.toNat : Int) % 4294967296) = q.setWidth 32 := by
  apply BitVec.eq_of_toNat_eq
  rw [BitVec.toNat_ofInt, BitVec.toNat_setWidth]
  omega

set_option maxHeartbeats 1000000 in
theorem modelMul_any (x y : Int) (w : World) (hx0 : 0 ≤ x) (hx : x < 4294967296) (hy0 : 0 ≤ y) (hy : y < 4294967296) :
    Calls Try.prog 14 #[.int .u32 x, .int .u32 y] w fun e w' => e = .returned (.int .u32 (modelI x y)) ∧ w' = w := by
  have Hfin : Hid (modelI x y = revI (((CrcMath.rd (CrcMath.pm (CrcMath.rev (BitVec.ofInt 32 x)) (CrcMath.rev (BitVec.ofInt 32 y)) 32) 31).toNat : Int) % 4294967296)) := by
    show modelI x y = _
    unfold modelI CrcMath.model revI
    rw [low32]
  obtain ⟨A, hA⟩ : ∃ A, A = CrcMath.rev (BitVec.ofInt 32 x) := ⟨_, rfl⟩
  obtain ⟨B, hB⟩ : ∃ B, B = CrcMath.rev (BitVec.ofInt 32 y) := ⟨_, rfl⟩
  rw [← hA, ← hB] at Hfin
  obtain ⟨na, hna⟩ : ∃ n : Nat, n = A.toNat := ⟨_, rfl⟩
  obtain ⟨nb, hnb⟩ : ∃ n : Nat, n = B.toNat := ⟨_, rfl⟩
  have hra : revI x = na := by unfold revI; rw [← hA, ← hna]
  have hrb : revI y = nb := by unfold revI; rw [← hB, ← hnb]
  have hna' : na < 4294967296 := by rw [hna]; exact A.isLt
  have hnb' : nb < 4294967296 := by rw [hnb]; exact B.isLt
  have Hna := hide hna
  have Hnb := hide hnb
  have Hra := hide hra
  have Hrb := hide hrb
  clear hA hB hna hnb hra hrb
  go_enter Try.func14, Try.ntmps14
  go_wp2_with fail
  refine (rev32_any _ _ hx0 hx).mono ?_
  rintro e w1 ⟨rfl, hw1⟩
  subst hw1
  rw [unhide Hra]
  go_wp2_with fail
  refine (rev32_any _ _ hy0 hy).mono ?_
  rintro e w2 ⟨rfl, hw2⟩
  subst hw2
  rw [unhide Hrb]
  go_wp2_with fail
  go_loop [7, 8] (fun t7 t8 => ∃ k pp : Nat, k ≤ 32 ∧ pp < 18446744073709551616 ∧ t8 = .int .i64 k ∧ t7 = .int .u64 pp ∧ pmRel A B k pp) (fun _ t8 => (32 - intOf t8).toNat)
  case atStart => exact ⟨0, 0, by omega, by omega, rfl, rfl, rfl⟩
  case round =>
    obtain ⟨k, pp, hk, hpp, rfl, rfl, hr⟩ := hrel
    have Hp : Hid (pp = (CrcMath.pm A B k).toNat) := hr
    clear hr
    by_cases hlt : k < 32
    · have hbit := bit_test32 B k
      rw [← Hnb.out] at hbit
      have hstep := xor64_step (CrcMath.pm A B k) (A.setWidth 64 <<< k) _ (shl64_step (A.setWidth 64) na k (by rw [Hna.out, BitVec.toNat_setWidth]; omega))
      rw [← Hp.out] at hstep
      have Hbit := hide hbit
      have Hstep := hide hstep
      clear hbit hstep
      go_wp2
      all_goals
        go_round
        case measure => simp [intOf]; omega
      case rel =>
        refine ⟨k + 1, (CrcMath.pm A B (k + 1)).toNat, by omega, BitVec.isLt _, by go_num, ?_, rfl⟩
        rw [unhide Hstep]
        simp only [CrcMath.pm]
        have hb1 : B.getLsbD k = true := by rw [← unhide Hbit]; assumption
        rw [hb1, cond_true]
      case rel =>
        refine ⟨k + 1, (CrcMath.pm A B (k + 1)).toNat, by omega, BitVec.isLt _, by go_num, ?_, rfl⟩
        rw [Hp.out]
        simp only [CrcMath.pm]
        have hb1 : B.getLsbD k = false := by rw [← unhide Hbit]; assumption
        rw [hb1, cond_false, BitVec.xor_zero]
    · have hk32 : k = 32 := by omega
      subst hk32
      obtain ⟨q, hq⟩ : ∃ q, q = CrcMath.pm A B 32 := ⟨_, rfl⟩
      rw [← hq] at Hp Hfin
      clear hq
      go_wp2_with fail
      go_loop [7, 10] (fun t7 t8 => ∃ k pp : Nat, k ≤ 31 ∧ pp < 18446744073709551616 ∧ t8 = .int .i64 (62 - k) ∧ t7 = .int .u64 pp ∧ rdRel q k pp) (fun _ t8 => (intOf t8 - 31).toNat)
      case atStart => exact ⟨0, pp, by omega, hpp, rfl, rfl, Hp.out⟩
      case round =>
        clear Hp
        obtain ⟨k, p2, hk, hp2, rfl, rfl, hr⟩ := hrel
        have Hp2 : Hid (p2 = (CrcMath.rd q k).toNat) := hr
        clear hr
        by_cases hlt2 : k < 31
        · have hbit := bit_test64 (CrcMath.rd q k) (62 - k)
          have hfull : IntKind.u64.wrap (4812730177 * 2 ^ (62 - k - 32)) = ((CrcMath.full <<< (62 - k - 32)).toNat : Int) := shl64_step CrcMath.full 4812730177 (62 - k - 32) rfl
          have hstep := xor64_step (CrcMath.rd q k) (CrcMath.full <<< (62 - k - 32)) _ hfull
          rw [← Hp2.out] at hbit hstep
          have Hbit := hide hbit
          have Hstep := hide hstep
          clear hbit hstep hfull
          go_wp2
          all_goals
            go_round
            case measure => simp [intOf]; omega
          case rel =>
            refine ⟨k + 1, (CrcMath.rd q (k + 1)).toNat, by omega, BitVec.isLt _, by go_num, ?_, rfl⟩
            rw [unhide Hstep]
            simp only [CrcMath.rd]
            have hb1 : (CrcMath.rd q k).getLsbD (62 - k) = true := by rw [← unhide Hbit]; assumption
            rw [hb1, cond_true, show 62 - k - 32 = 30 - k by omega]
          case rel =>
            refine ⟨k + 1, (CrcMath.rd q (k + 1)).toNat, by omega, BitVec.isLt _, by go_num, ?_, rfl⟩
            rw [Hp2.out]
            simp only [CrcMath.rd]
            have hb1 : (CrcMath.rd q k).getLsbD (62 - k) = false := by rw [← unhide Hbit]; assumption
            rw [hb1, cond_false, BitVec.xor_zero]
        · have hk31 : k = 31 := by omega
          subst hk31
          rw [← Hp2.out] at Hfin
          go_wp2_with fail
          refine (rev32_any _ _ (by omega) (by omega)).mono ?_
          rintro e w3 ⟨rfl, hw3⟩
          subst hw3
          rw [← unhide Hfin]
          go_wp2_with fail
          go_ret
          exact ⟨rfl, rfl⟩

end Go.Proofs.Qxb6002358a
