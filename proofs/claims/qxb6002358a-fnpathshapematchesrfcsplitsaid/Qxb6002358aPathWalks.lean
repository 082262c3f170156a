/-
  The walks of zzLargestPowerBelow, pathShape, pathLength and the shims.
-/
import Derived.Test.Qxb6002358aPopWalks
import Derived.Test.Qxb6002358aLen64
import Derived.Test.Qxb6002358aPathMath
import Derived.Deep.RegionHeld3
namespace Go.Proofs.Qxb6002358a
open Go.RowKit

/-- k is a power of two. -/
def isPow2 (k : Nat) : Prop := ∃ t, k = 2 ^ t

theorem isPow2_double {k : Nat} (h : isPow2 k) : isPow2 (2 * k) := by
  obtain ⟨t, rfl⟩ := h
  exact ⟨t + 1, by rw [Nat.pow_succ, Nat.mul_comm]⟩

set_option maxHeartbeats 400000 in
theorem lpb_nat (n : Nat) (w : World) (h2 : 2 ≤ n) (hn : n < 18446744073709551616) :
    Calls Try.prog 19 #[.int .u64 n] w fun e w' => ∃ k : Nat, isPow2 k ∧ 1 ≤ k ∧ k < n ∧ n ≤ 2 * k ∧ e = .returned (.int .u64 k) ∧ w' = w := by
  go_enter Try.func19, Try.ntmps19
  go_wp2_with fail
  go_loop [3] (fun t3 => ∃ p : Nat, 1 ≤ p ∧ p < n ∧ t3 = .int .u64 p ∧ isPow2 p) (fun t3 => n - (intOf t3).toNat)
  case atStart => exact ⟨1, by omega, by omega, rfl, 0, rfl⟩
  case round =>
    obtain ⟨p, hp1, hpn, rfl, hpow⟩ := hrel
    have Hp := Pop.hide hpow
    clear hpow
    by_cases hlt : p ≤ (n - 1) / 2
    · have hlt' : 2 * p ≤ n - 1 := by omega
      clear hlt
      go_wp2
      go_round
      case rel => exact ⟨2 * p, by omega, by omega, by go_num, isPow2_double Hp.out⟩
      case measure => simp [intOf]; omega
    · have hlt' : n - 1 < 2 * p := by omega
      clear hlt
      go_wp2
      go_ret
      exact ⟨p, Hp.out, hp1, hpn, by omega, rfl, rfl⟩

theorem wrap_i64_path (x : Int) (h0 : 0 ≤ x) (h1 : x < 9223372036854775808) : IntKind.i64.wrap x = x := by
  simp [IntKind.wrap, IntKind.bits, IntKind.signed]; omega

set_option maxHeartbeats 1000000 in
theorem pathShape_stages (S I X t : Nat) (r : Bool) (l : Nat) (w : World) (hS : S < 18446744073709551616) (ht : t ≤ 63) (hX : X < 18446744073709551616)
    (hx : bits .xor .u64 (I : Int) (S : Int) = (X : Int)) (hl : Hid ((Go.Lib.bitLen X : Int) = (t : Int) + 1))
    (hr : Hid ((bits BinOp.and IntKind.u64 (S : Int) (IntKind.u64.wrap (IntKind.u64.wrap (2 ^ t) - 1)) != 0) = r)) (hpl : Hid ((Pop.pop ((S : Int) / 2 ^ (t + 1)).toNat : Int) = (l : Int))) :
    Calls Try.prog 30 #[.int .u64 I, .int .u64 S] w fun e w' => e = .returned (.tuple #[.int .i64 t, .bool r, .int .i64 l]) ∧ w' = w.drew := by
  go_enter Try.func30, Try.ntmps30
  go_wp2_with fail
  refine (len64_any _ _ (by omega) (by omega)).mono ?_
  rintro e w1 ⟨rfl, hw1⟩
  subst hw1
  rw [Int.toNat_natCast, Pop.unhide hl]
  go_wp2_with fail
  have kw : IntKind.i64.wrap ((t : Int) + 1) = (t : Int) + 1 := wrap_i64_path _ (by omega) (by omega)
  have kt0 : (0 : Int) ≤ (t : Int) + 1 := by omega
  have kt1 : (t : Int) + 1 ≤ 64 := by omega
  have kd0 : 0 ≤ (S : Int) / 2 ^ (t + 1) := Int.ediv_nonneg (by omega) (Int.le_of_lt (Int.pow_pos (by omega)))
  have kd1 : (S : Int) / 2 ^ (t + 1) < 18446744073709551616 := Int.lt_of_le_of_lt (Int.ediv_le_self _ (by omega)) (by omega)
  go_region_held3 (fun w' => w'.heap = w1.heap) (first | rfl | go_keep) (first | (go_at_call 34; refine (onesCount_any _ _ kd0 kd1).mono ?_; rintro e w' ⟨rfl, rfl⟩))
  rw [Pop.unhide hr, Pop.unhide hpl]
  go_wp2_with fail
  go_ret3
  exact ⟨rfl, rfl⟩

theorem right_bit (S t : Nat) (r : Bool) (hS : S < 18446744073709551616) (ht : t ≤ 63) (h : (!(S &&& (2 ^ t - 1) == 0)) = r) :
    (bits BinOp.and IntKind.u64 (S : Int) (IntKind.u64.wrap (IntKind.u64.wrap (2 ^ t) - 1)) != 0) = r := by
  have hp : 2 ^ t < 2 ^ 64 := Nat.pow_lt_pow_right (by omega) (by omega)
  have hp0 : 0 < 2 ^ t := Nat.two_pow_pos t
  have e1 : IntKind.u64.wrap (2 ^ t) = ((2 ^ t : Nat) : Int) := by
    rw [IntKind.wrap_u64, show ((2 : Int) ^ t) = ((2 ^ t : Nat) : Int) by simp]; omega
  have e2 : IntKind.u64.wrap (((2 ^ t : Nat) : Int) - 1) = ((2 ^ t - 1 : Nat) : Int) := by
    rw [IntKind.wrap_u64]; omega
  rw [e1, e2, u64_and_nat S (2 ^ t - 1) hS (by omega), ← h]
  generalize S &&& (2 ^ t - 1) = z
  rw [Bool.eq_iff_iff]
  simp

/-- pathShape, at a leaf whose place in the tree is known. -/
theorem pathShape_fin (S I t l : Nat) (r : Bool) (w : World) (hI : I < S) (hS : S < 18446744073709551616) (h : Path.Fin S I t r l) :
    Calls Try.prog 30 #[.int .u64 I, .int .u64 S] w fun e w' => e = .returned (.tuple #[.int .i64 t, .bool r, .int .i64 l]) ∧ w' = w.drew := by
  have ht := Path.fin_t hS h
  refine pathShape_stages S I (I ^^^ S) t r l w hS (by omega) (Nat.xor_lt_two_pow (n := 64) (by omega) hS) (bits_xor_u64_nat I S (by omega) hS) (Pop.hide ?_) (Pop.hide (right_bit S t r hS (by omega) (Path.fin_right h))) (Pop.hide ?_)
  · rw [Path.fin_len hS h]; rfl
  · have e : ((S : Int) / 2 ^ (t + 1)).toNat = S / 2 ^ (t + 1) := by
      rw [show ((S : Int) / 2 ^ (t + 1)) = ((S / 2 ^ (t + 1) : Nat) : Int) by simp, Int.toNat_natCast]
    rw [e, Path.fin_left h]

set_option maxHeartbeats 400000 in
theorem zzPathShape_fin (S I t l : Nat) (r : Bool) (w : World) (hI : I < S) (hS : S < 18446744073709551616) (h : Hid (Path.Fin S I t r l)) :
    Calls Try.prog 20 #[.int .u64 I, .int .u64 S] w fun e w' => e = .returned (.tuple #[.int .i64 t, .bool r, .int .i64 l]) ∧ w' = w.drew := by
  go_enter Try.func20, Try.ntmps20
  go_wp2_with fail
  refine (pathShape_fin S I t l r _ hI hS h.out).mono ?_
  rintro e w1 ⟨rfl, hw1⟩
  subst hw1
  go_wp2_with fail
  go_ret3
  exact ⟨rfl, rfl⟩

/-- the path's length out of its shape. -/
def plen (t l : Nat) (r : Bool) : Int := bif r then (t : Int) + 1 + l else t + l

set_option maxHeartbeats 400000 in
theorem pathLength_fin (S I t l : Nat) (r : Bool) (w : World) (hI : I < S) (hS : S < 18446744073709551616) (ht : t ≤ 63) (hl : l ≤ 64) (h : Hid (Path.Fin S I t r l)) :
    Calls Try.prog 31 #[.int .u64 I, .int .u64 S] w fun e w' => e = .returned (.int .i64 (plen t l r)) ∧ w' = w.drew := by
  cases r
  all_goals
    go_enter Try.func31, Try.ntmps31
    go_wp2_with fail
    refine (pathShape_fin S I t l _ _ hI hS h.out).mono ?_
    rintro e w1 ⟨rfl, hw1⟩
    subst hw1
    go_wp2_with fail
    go_ret
    exact ⟨rfl, rfl⟩

set_option maxHeartbeats 400000 in
theorem zzPathLength_fin (S I t l : Nat) (r : Bool) (w : World) (hI : I < S) (hS : S < 18446744073709551616) (ht : t ≤ 63) (hl : l ≤ 64) (h : Hid (Path.Fin S I t r l)) :
    Calls Try.prog 21 #[.int .u64 I, .int .u64 S] w fun e w' => e = .returned (.int .i64 (plen t l r)) ∧ w' = w.drew := by
  go_enter Try.func21, Try.ntmps21
  go_wp2_with fail
  refine (pathLength_fin S I t l r _ hI hS ht hl h).mono ?_
  rintro e w1 ⟨rfl, hw1⟩
  subst hw1
  go_wp2_with fail
  go_ret
  exact ⟨rfl, rfl⟩

end Go.Proofs.Qxb6002358a
