/-
  The walks of zzPeakNodes and zzTrailingOnes.
-/
import Derived.Test.Qxb6002358aPopWalks
import Derived.Test.Qxb6002358aLogMath
namespace Go.Proofs.Qxb6002358a
open Go.RowKit

namespace Pop
theorem and_one (x : Nat) (h : x < 18446744073709551616) : bits .and .u64 (x : Int) 1 = ((x % 2 : Nat) : Int) := by
  have := u64_and_nat x 1 h (by omega)
  simpa [Nat.and_one_is_mod] using this

theorem bit_yes {x k : Nat} (h : x < 18446744073709551616) (hb : (bits .and .u64 ((x : Int) / 2 ^ k) 1 == 1) = true) : x / 2 ^ k % 2 = 1 := by
  have e : ((x : Int) / 2 ^ k) = ((x / 2 ^ k : Nat) : Int) := by simp
  rw [e, and_one _ (Nat.lt_of_le_of_lt (Nat.div_le_self _ _) h)] at hb
  have : ((x / 2 ^ k % 2 : Nat) : Int) = 1 := by simpa using hb
  exact Int.ofNat.inj this

theorem bit_no {x k : Nat} (h : x < 18446744073709551616) (hb : (bits .and .u64 ((x : Int) / 2 ^ k) 1 == 1) = false) : x / 2 ^ k % 2 = 0 := by
  have e : ((x : Int) / 2 ^ k) = ((x / 2 ^ k : Nat) : Int) := by simp
  rw [e, and_one _ (Nat.lt_of_le_of_lt (Nat.div_le_self _ _) h)] at hb
  have hn : ¬ ((x / 2 ^ k % 2 : Nat) : Int) = 1 := by simpa using hb
  rcases Nat.mod_two_eq_zero_or_one (x / 2 ^ k) with h0 | h0
  · exact h0
  · exact absurd (by rw [h0]; rfl) hn

theorem bit_of {x k : Nat} (h : x < 18446744073709551616) (hb : x / 2 ^ k % 2 = 1) : (bits .and .u64 ((x : Int) / 2 ^ k) 1 == 1) = true := by
  have e : ((x : Int) / 2 ^ k) = ((x / 2 ^ k : Nat) : Int) := by simp
  rw [e, and_one _ (Nat.lt_of_le_of_lt (Nat.div_le_self _ _) h), hb]; rfl

theorem bit_off {x k : Nat} (h : x < 18446744073709551616) (hb : x / 2 ^ k % 2 = 0) : (bits .and .u64 ((x : Int) / 2 ^ k) 1 == 1) = false := by
  have e : ((x : Int) / 2 ^ k) = ((x / 2 ^ k : Nat) : Int) := by simp
  rw [e, and_one _ (Nat.lt_of_le_of_lt (Nat.div_le_self _ _) h), hb]; rfl

/-- what the peaks' loop holds at the head of round k. -/
def peakRel (x k : Nat) (p : Int) : Prop := p = peak k x
end Pop

set_option maxHeartbeats 400000 in
theorem peakNodes_nat (x : Nat) (w : World) (h1 : x ≤ 1099511627776) :
    Calls Try.prog 23 #[.int .u64 x] w fun e w' => e = .returned (.int .u64 (2 * (x : Int) - (Pop.pop x : Int))) ∧ w' = w := by
  go_enter Try.func23, Try.ntmps23
  go_wp2_with fail
  go_loop [3, 4] (fun t3 t4 => ∃ (k : Nat) (p : Int), k ≤ 64 ∧ 0 ≤ p ∧ p ≤ 2 * (x : Int) ∧ t4 = .int .i64 k ∧ t3 = .int .u64 p ∧ Pop.peakRel x k p) (fun _ t4 => (64 - intOf t4).toNat)
  case atStart => exact ⟨0, 0, by omega, by omega, by omega, rfl, rfl, (Pop.peak_zero x).symm⟩
  case round =>
    obtain ⟨k, p, hk, hp0, hp1, rfl, rfl, hr⟩ := hrel
    have Hr := Pop.hide hr
    clear hr
    by_cases hlt : k < 64
    · rcases Nat.mod_two_eq_zero_or_one (x / 2 ^ k) with hb | hb
      · have Hb := Pop.hide hb
        have ht := Pop.bit_off (by omega) hb
        clear hb
        go_wp2
        go_round
        case rel => exact ⟨k + 1, p, by omega, hp0, hp1, by go_num, rfl, (show p = _ from Hr.out).trans (Pop.peak_unset Hb.out).symm⟩
        case measure => simp [intOf]; omega
      · have Hb := Pop.hide hb
        have ht := Pop.bit_of (by omega) hb
        have hpw := Pop.pow_le_of_bit hb
        have h40 : ((2 : Int) ^ k) ≤ 1099511627776 := by have : ((2 ^ k : Nat) : Int) ≤ 1099511627776 := by omega
                                                         simpa using this
        have h41 : 1 ≤ ((2 : Int) ^ k) := by have : (1 : Int) ≤ ((2 ^ k : Nat) : Int) := by have := Nat.two_pow_pos k; omega
                                             simpa using this
        have Hpw := Pop.hide hpw
        clear hb hpw
        go_wp2
        go_round
        case rel =>
          have e : p + (2 * 2 ^ k - 1) = Pop.peak (k + 1) x := by rw [Pop.peak_set Hb.out, show p = Pop.peak k x from Hr.out]
          exact ⟨k + 1, Pop.peak (k + 1) x, by omega, Pop.peak_lo _ _, Pop.peak_hi _ _, by go_num, by rw [e], rfl⟩
        case measure => simp [intOf]; omega
    · have hk64 : k = 64 := by omega
      subst hk64
      have he : p = 2 * (x : Int) - (Pop.pop x : Int) := (show p = Pop.peak 64 x from Hr.out).trans (Pop.peak_end x (by omega))
      have He := Pop.hide he
      clear he Hr
      go_wp2
      go_ret
      exact ⟨Pop.ret_int He.out, rfl⟩

set_option maxHeartbeats 400000 in
theorem trailing_nat (x : Nat) (w : World) (h1 : x ≤ 1099511627776) :
    Calls Try.prog 24 #[.int .u64 x] w fun e w' => ∃ t : Nat, t ≤ 64 ∧ Pop.pop (x + 1) + t = Pop.pop x + 1 ∧ e = .returned (.int .u64 t) ∧ w' = w := by
  go_enter Try.func24, Try.ntmps24
  go_wp2_with fail
  go_loop [0, 3] (fun t0 t3 => ∃ (y t : Nat), y ≤ 1099511627776 ∧ t ≤ 64 ∧ t0 = .int .u64 y ∧ t3 = .int .u64 t ∧ Pop.ones x y t) (fun t0 _ => (intOf t0).toNat)
  case atStart => exact ⟨x, 0, h1, by omega, rfl, rfl, Pop.ones_start x⟩
  case round =>
    obtain ⟨y, t, hy, ht, rfl, rfl, hr⟩ := hrel
    have Hr := Pop.hide hr
    rcases Nat.mod_two_eq_zero_or_one y with hb | hb
    · have hend := Pop.hide (Pop.ones_end (by omega) hr hb)
      have hn : (bits .and .u64 (y : Int) 1 == 1) = false := by rw [Pop.and_one y (by omega), hb]; rfl
      clear hr hb
      by_cases h64 : t < 64
      · go_wp2
        go_ret
        exact ⟨t, ht, hend.out, rfl, rfl⟩
      · go_wp2
        go_ret
        exact ⟨t, ht, hend.out, rfl, rfl⟩
    · have h64 := Pop.ones_t (by omega) hr hb
      have hs := Pop.hide (Pop.ones_step (by omega) hr hb)
      have hn : (bits .and .u64 (y : Int) 1 == 1) = true := by rw [Pop.and_one y (by omega), hb]; rfl
      have hy1 : 1 ≤ y := by omega
      clear hr hb
      go_wp2
      go_round
      case rel => exact ⟨y / 2, t + 1, by omega, by omega, by go_num, by go_num, hs.out⟩
      case measure => simp [intOf]; omega

end Go.Proofs.Qxb6002358a
