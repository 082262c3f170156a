/-
  The walk of FnLogLengthsMatchPostOrderLayout in the case that it speaks of.
-/
import Derived.Test.Qxb6002358aLogWalks
import Derived.Test.Qxb6002358aPeakWalks
import Derived.Deep.QuietTactic
import Derived.BigQuiet
namespace Go.Proofs.Qxb6002358a
open Go.RowKit

theorem peakNodes_any (x p : Int) (w : World) (h0 : 0 ≤ x) (h1 : x ≤ 1099511627776) (he : Hid ((Pop.pop x.toNat : Int) = p)) :
    Calls Try.prog 23 #[.int .u64 x] w fun e w' => e = .returned (.int .u64 (2 * x - p)) ∧ w' = w := by
  have h := peakNodes_nat x.toNat w (by omega)
  rw [Int.toNat_of_nonneg h0, he.out] at h
  exact h

theorem trailing_any (x p q : Int) (w : World) (h0 : 0 ≤ x) (h1 : x ≤ 1099511627776) (he : Hid ((Pop.pop x.toNat : Int) = p)) (hf : Hid ((Pop.pop (x + 1).toNat : Int) = q)) :
    Calls Try.prog 24 #[.int .u64 x] w fun e w' => e = .returned (.int .u64 (p + 1 - q)) ∧ w' = w := by
  have h := trailing_nat x.toNat w (by omega)
  rw [Int.toNat_of_nonneg h0] at h
  refine h.mono ?_
  rintro e w' ⟨t, _, ht2, rfl, hw⟩
  have e1 : (x + 1).toNat = x.toNat + 1 := by omega
  have a := he.out
  have b := hf.out
  rw [e1] at b
  exact ⟨Pop.ret_int (by omega), hw⟩

theorem wrap_u64_of (x : Int) (h0 : 0 ≤ x) (h1 : x < 18446744073709551616) : IntKind.u64.wrap x = x := by
  rw [IntKind.wrap_u64]; omega

theorem grown_trans {a b c : World} (h : Grown a b) (k : Grown b c) : Grown a c :=
  ⟨World.keptBut_trans h.1 (World.keptBut_mono (fun _ f => f.elim) k.1), fun x => (k.2.1 x).trans (h.2.1 x), Nat.le_trans h.2.2 k.2.2⟩

theorem zzLengths_grown (a b c p : Int) (w : World) (h0 : 0 ≤ a) (h1 : a ≤ 2199023255552) (h2 : 0 ≤ b) (h3 : b ≤ 4611686018427387904) (h4 : 0 ≤ c) (h5 : c ≤ 1099511627776)
    (hp : p ≤ 64) (hp0 : 0 ≤ p) (hq : p ≤ a) (he : Hid ((Pop.pop a.toNat : Int) = p)) :
    Calls Try.prog 22 #[.int .u64 a, .int .u64 b, .int .u64 c] w fun e w' => e = .returned (.agg #[.int .i64 b, .int .i64 (a * 8), .int .i64 ((2 * a - p) * 32), .int .i64 (c * 40)]) ∧ Grown w w' ∧ Below w.heap.size w w' := by
  refine (zzLengths_any a b c p w h0 h1 h2 h3 h4 h5 hp hp0 hq he).mono ?_
  rintro e w1 ⟨rfl, hw1⟩
  subst hw1
  refine ⟨rfl, (((Grown.refl w).alloc _ _).alloc _ _).alloc _ _, ?_⟩
  exact ((((Below.refl _ w).alloc (Nat.le_refl _) _).alloc (by simp) _).alloc (by simp; omega) _).drew

set_option maxHeartbeats 2000000 in
theorem layout_main (a b c p q : Int) (w : World) (h0 : 0 ≤ a) (h1 : a ≤ 1099511627776) (h2 : 0 ≤ b) (h3 : b ≤ 4611686018427387904) (h4 : 0 ≤ c) (h5 : c ≤ 1099511627776)
    (hp : p ≤ 64) (hp0 : 0 ≤ p) (hpa : p ≤ a) (he : Hid ((Pop.pop a.toNat : Int) = p))
    (hq : q ≤ 64) (hq0 : 0 ≤ q) (hqa : q ≤ a + 1) (hf : Hid ((Pop.pop (a + 1).toNat : Int) = q)) (hpq : q ≤ p + 1) :
    Calls Try.prog 12 #[.int .u64 a, .int .u64 b, .int .u64 c] w fun e w' => e = .returned (.bool true) ∧ Grown w w' := by
  have k4 := Pop.hide (wrap_i64_of (2 * a - p) (by omega) (by omega))
  have k5 := Pop.hide (wrap_i64_of ((2 * a - p) * 32) (by omega) (by omega))
  have m1 := Pop.hide (wrap_i64_of ((2 * (a + 1) - q) * 32 - (2 * a - p) * 32) (by omega) (by omega))
  have m2 := Pop.hide (wrap_u64_of (1 + (p + 1 - q)) (by omega) (by omega))
  have m3 := Pop.hide (wrap_i64_of (1 + (p + 1 - q)) (by omega) (by omega))
  have m4 := Pop.hide (wrap_i64_of ((1 + (p + 1 - q)) * 32) (by omega) (by omega))
  have m5 : Hid (((2 * (a + 1) - q) * 32 - (2 * a - p) * 32 != (1 + (p + 1 - q)) * 32) = false) := by
    show (_ != _) = false
    rw [show (2 * (a + 1) - q) * 32 - (2 * a - p) * 32 = (1 + (p + 1 - q)) * 32 by omega]
    simp
  go_enter Try.func12, Try.ntmps12
  go_wp2_with fail
  refine (zzLengths_grown a b c p _ h0 (by omega) h2 h3 h4 h5 hp hp0 hpa he).mono ?_
  rintro e w1 ⟨rfl, hg1, hb1⟩
  have Hg1 := Pop.hide hg1
  clear hg1 hb1
  go_wp2_with fail
  go_region_held3 (fun w' => w'.cell? ⟨w1.heap.size, 2, none⟩ = some (.int .i64 ((2 * a - p) * 32))) (go_keep) (first | (go_at_call 23; refine (peakNodes_any a p _ h0 h1 he).mono ?_; rintro e w' ⟨rfl, rfl⟩))
  simp only [k4.out, k5.out]
  go_wp2_with fail
  refine (zzLengths_grown (a + 1) b c q _ (by omega) (by omega) h2 h3 h4 h5 hq hq0 hqa hf).mono ?_
  rintro e w2 ⟨rfl, hg2, hb2⟩
  have c0 : w2.cell? ⟨w1.heap.size, 0, none⟩ = some (.int .i64 b) := (hb2.cell (p := ⟨w1.heap.size, 0, none⟩) (by simp)).trans (by simp)
  have c1 : w2.cell? ⟨w1.heap.size, 1, none⟩ = some (.int .i64 (a * 8)) := (hb2.cell (p := ⟨w1.heap.size, 1, none⟩) (by simp)).trans (by simp)
  have c2 : w2.cell? ⟨w1.heap.size, 2, none⟩ = some (.int .i64 ((2 * a - p) * 32)) := (hb2.cell (p := ⟨w1.heap.size, 2, none⟩) (by simp)).trans (by simp)
  have c3 : w2.cell? ⟨w1.heap.size, 3, none⟩ = some (.int .i64 (c * 40)) := (hb2.cell (p := ⟨w1.heap.size, 3, none⟩) (by simp)).trans (by simp)
  have hz : w1.heap.size < w2.heap.size := by have := hb2.size; simp at this; omega
  have Hg2 := Pop.hide hg2
  clear hg2 hb2
  go_wp2_with fail
  go_region_held3 (fun w' => w'.cell? ⟨w2.heap.size, 2, none⟩ = some (.int .i64 ((2 * (a + 1) - q) * 32)) ∧ w'.cell? ⟨w1.heap.size, 2, none⟩ = some (.int .i64 ((2 * a - p) * 32))) (go_keep) (first | (go_at_call 24; refine (trailing_any a p q _ h0 h1 he hf).mono ?_; rintro e w' ⟨rfl, rfl⟩))
  simp only [m1.out, m2.out, m3.out, m4.out, m5.out]
  go_wp2_with fail
  go_ret
  exact ⟨rfl, grown_trans Hg1.out (grown_trans ((Grown.refl w1).alloc _ _) (grown_trans Hg2.out ((Grown.refl w2).alloc _ _)))⟩
end Go.Proofs.Qxb6002358a
