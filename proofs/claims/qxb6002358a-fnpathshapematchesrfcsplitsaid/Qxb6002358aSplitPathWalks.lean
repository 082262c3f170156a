/-
  The walk of FnPathShapeMatchesRFCSplit.
-/
import Derived.Test.Qxb6002358aPathWalks
namespace Go.Proofs.Qxb6002358a
open Go.RowKit

theorem lpb_of (n t k : Nat) (w : World) (hk : Hid (k = 2 ^ t)) (h1 : k < n) (h2 : n ≤ 2 * k) (hn : n < 18446744073709551616) :
    Calls Try.prog 19 #[.int .u64 n] w fun e w' => e = .returned (.int .u64 k) ∧ w' = w := by
  have e := hk.out
  have hp : 0 < 2 ^ t := Nat.two_pow_pos t
  refine (lpb_nat n w (by omega) hn).mono ?_
  rintro e' w' ⟨k', ⟨s, hs⟩, _, h3, h4, rfl, hw⟩
  have : s = t := Path.pow_unique (n := n) (by omega) (by rw [Nat.pow_succ]; omega) (by omega) (by rw [Nat.pow_succ]; omega)
  subst this
  exact ⟨by rw [hs, e], hw⟩

theorem perfect_bit_yes {n k t : Nat} (hn : n < 18446744073709551616) (hk : k = 2 ^ t) (h : n = 2 * k) : (bits BinOp.and IntKind.u64 (n : Int) ((n : Int) - 1) == 0) = true := by
  have hp : 0 < 2 ^ t := Nat.two_pow_pos t
  have hn2 : n = 2 ^ (t + 1) := by rw [Nat.pow_succ]; omega
  rw [show ((n : Int) - 1) = ((n - 1 : Nat) : Int) by omega, u64_and_nat n (n - 1) hn (by omega), hn2, Path.perfect_yes]
  rfl

theorem perfect_bit_no {n k t : Nat} (hn : n < 18446744073709551616) (hk : k = 2 ^ t) (h1 : k < n) (h2 : n < 2 * k) : (bits BinOp.and IntKind.u64 (n : Int) ((n : Int) - 1) == 0) = false := by
  have := Path.perfect_no (n := n) (t := t) (by omega) (by rw [Nat.pow_succ]; omega)
  rw [show ((n : Int) - 1) = ((n - 1 : Nat) : Int) by omega, u64_and_nat n (n - 1) hn (by omega)]
  generalize n &&& (n - 1) = z at *
  simp; omega

theorem below_pow (n : Nat) (h : 2 ≤ n) : ∃ t k, k = 2 ^ t ∧ k < n ∧ n ≤ 2 * k := by
  have h1 : 2 ^ (n - 1).log2 ≤ n - 1 := Nat.log2_self_le (by omega)
  have h2 : n - 1 < 2 ^ ((n - 1).log2 + 1) := Nat.lt_log2_self
  rw [Nat.pow_succ] at h2
  exact ⟨(n - 1).log2, 2 ^ (n - 1).log2, rfl, by omega, by omega⟩

set_option maxRecDepth 100000 in
set_option maxHeartbeats 4000000 in
theorem path_main (S I : Nat) (w : World) (hI : I < S) (hS : S < 18446744073709551616) :
    Calls Try.prog 11 #[.int .u64 I, .int .u64 S] w fun e w' => e = .returned (.bool true) ∧ Grown w w' := by
  have hge : decide (S ≤ I) = false := by simp; omega
  go_enter Try.func11, Try.ntmps11
  go_wp2_with fail
  go_loop [5, 6, 7, 8, 9, 10] (fun t5 t6 t7 t8 t9 t10 => ∃ (i l st m n : Nat) (r : Bool), i ≤ 63 ∧ l ≤ 64 ∧ st ≤ 128 ∧ m < n ∧ 1 ≤ n ∧ n < 18446744073709551616 ∧
      t5 = .int .i64 i ∧ t6 = .bool r ∧ t7 = .int .i64 l ∧ t8 = .int .u64 m ∧ t9 = .int .u64 n ∧ t10 = .int .i64 st ∧ Path.Inv S I i r l st m n) (fun _ _ _ _ t9 _ => (intOf t9).toNat)
  case atStart => exact ⟨0, 0, 0, I, S, false, by omega, by omega, by omega, hI, by omega, hS, rfl, rfl, rfl, rfl, rfl, rfl, Path.inv_start hI hS⟩
  case round =>
    obtain ⟨i, l, st, m, n, r, hi, hl, hst, hmn, hn1, hn, rfl, rfl, rfl, rfl, rfl, rfl, hinv⟩ := hrel
    by_cases h2 : 2 ≤ n
    · obtain ⟨t, k, hk, hkn, hnk⟩ := below_pow n h2
      have Hk := Pop.hide hk
      have hp : 0 < 2 ^ t := Nat.two_pow_pos t
      have hk1 : 1 ≤ k := by omega
      have hpp : 2 ^ (t + 1) = 2 ^ t + 2 ^ t := by rw [Nat.pow_succ]; omega
      by_cases hpf : n = 2 * k
      · have hb := perfect_bit_yes hn hk hpf
        have hstep := Path.inv_inner (t := t) hinv (by omega)
        rw [← hk] at hstep
        by_cases hmk : m < k
        · have hs := hstep.1 hmk
          have hbd := Path.inv_bounds hS hs
          have Hs := Pop.hide hs
          have Hbd := Pop.hide hbd
          clear hk hp hpp hpf hinv hstep hs hbd
          go_wp2_with (go_at_call 19; refine (lpb_of _ t k _ Hk hkn hnk hn).mono ?_; rintro e w' ⟨rfl, rfl⟩)
          go_round
          case rel => exact ⟨i + 1, l, st + 1, m, k, r, by have := Hbd.out; omega, by omega, by have := Hbd.out; omega, hmk, hk1, by omega, by go_num, rfl, rfl, rfl, rfl, by go_num, Hs.out⟩
          case measure => simp [intOf]; omega
        · have hs := hstep.2 (by omega)
          have hbd := Path.inv_bounds hS hs
          have Hs := Pop.hide hs
          have Hbd := Pop.hide hbd
          clear hk hp hpp hpf hinv hstep hs hbd
          go_wp2_with (go_at_call 19; refine (lpb_of _ t k _ Hk hkn hnk hn).mono ?_; rintro e w' ⟨rfl, rfl⟩)
          go_round
          case rel => exact ⟨i + 1, l, st + 1, m - k, n - k, r, by have := Hbd.out; omega, by omega, by have := Hbd.out; omega, by omega, by omega, by omega, by go_num, rfl, rfl, by go_num, by go_num, by go_num, Hs.out⟩
          case measure => simp [intOf]; omega
      · have hb := perfect_bit_no hn hk hkn (by omega)
        have hstep := Path.inv_outer (t := t) hS hinv (by omega) (by omega)
        rw [← hk] at hstep
        obtain ⟨hrf, hstep1, hstep2⟩ := hstep
        subst hrf
        by_cases hmk : m < k
        · have hs := hstep1 hmk
          have hbd := Path.inv_bounds hS hs
          have Hs := Pop.hide hs
          have Hbd := Pop.hide hbd
          clear hk hp hpp hpf hinv hstep1 hstep2 hs hbd
          go_wp2_with (go_at_call 19; refine (lpb_of _ t k _ Hk hkn hnk hn).mono ?_; rintro e w' ⟨rfl, rfl⟩)
          go_round
          case rel => exact ⟨i, l, st + 1, m, k, true, by omega, by omega, by have := Hbd.out; omega, hmk, hk1, by omega, rfl, rfl, rfl, rfl, rfl, by go_num, Hs.out⟩
          case measure => simp [intOf]; omega
        · have hs := hstep2 (by omega)
          have hbd := Path.inv_bounds hS hs
          have Hs := Pop.hide hs
          have Hbd := Pop.hide hbd
          clear hk hp hpp hpf hinv hstep1 hstep2 hs hbd
          go_wp2_with (go_at_call 19; refine (lpb_of _ t k _ Hk hkn hnk hn).mono ?_; rintro e w' ⟨rfl, rfl⟩)
          go_round
          case rel => exact ⟨i, l + 1, st + 1, m - k, n - k, false, by omega, by have := Hbd.out; omega, by have := Hbd.out; omega, by omega, by omega, by omega, rfl, rfl, by go_num, by go_num, by go_num, by go_num, Hs.out⟩
          case measure => simp [intOf]; omega
    · have hn11 : n = 1 := by omega
      obtain ⟨hm0, hfin⟩ := Path.inv_end hinv hn11
      have Hfin := Pop.hide hfin
      subst hn11 hm0
      clear hinv hfin
      cases r
      · have hpl := Pop.hide (show plen i l false = (i : Int) + l from rfl)
        go_wp2_with fail
        refine (zzPathShape_fin S I i l false _ hI hS Hfin).mono ?_
        rintro e w1 ⟨rfl, hw1⟩
        subst hw1
        go_wp2_with fail
        refine (zzPathLength_fin S I i l false _ hI hS hi hl Hfin).mono ?_
        rintro e w2 ⟨rfl, hw2⟩
        subst hw2
        rw [Pop.unhide hpl]
        go_wp2_with fail
        go_ret
        exact ⟨rfl, (Grown.refl _).drew.drew⟩
      · have hpl := Pop.hide (show plen i l true = (i : Int) + l + 1 by show (i : Int) + 1 + l = _; omega)
        go_wp2_with fail
        refine (zzPathShape_fin S I i l true _ hI hS Hfin).mono ?_
        rintro e w1 ⟨rfl, hw1⟩
        subst hw1
        go_wp2_with fail
        refine (zzPathLength_fin S I i l true _ hI hS hi hl Hfin).mono ?_
        rintro e w2 ⟨rfl, hw2⟩
        subst hw2
        rw [Pop.unhide hpl]
        go_wp2_with fail
        go_ret
        exact ⟨rfl, (Grown.refl _).drew.drew⟩

end Go.Proofs.Qxb6002358a
