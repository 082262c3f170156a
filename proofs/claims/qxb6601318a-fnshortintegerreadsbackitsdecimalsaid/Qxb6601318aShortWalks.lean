/-
  The walks of shortInteger and of its shim.
-/
import Derived.Test.Qxb6601318aProg
import Derived.Test.Qxb6601318aDecMath
import Derived.WalkKit
import Derived.ProofKit
namespace Go.Proofs.Qxb6601318a
open Go.RowKit
open Dec (val)

theorem hide {p : Prop} (h : p) : Hid p := h
theorem unhide {p : Prop} (h : Hid p) : p := h.out

/-- what the loop has read at the head of round k. -/
def readRel (f : Nat → Int) (k : Nat) (v : Int) : Prop := v = val f k

set_option maxHeartbeats 1000000 in
theorem short_plain (g cap m : Nat) (f : Nat → Int) (w : World) (hm1 : 1 ≤ m) (hm18 : m ≤ 18) (hmc : m ≤ cap)
    (HC : Hid (∀ j, j < m → w.cell? ⟨g, j, none⟩ = some (.int .u8 (f j)))) (HD : Hid (∀ j, 48 ≤ f j ∧ f j ≤ 57)) :
    Calls Try.prog 17 #[.slice (some ⟨g, 0, none⟩) m cap] w fun e w' => e = .returned (.tuple #[.int .i64 (val f m), .bool true]) ∧ w' = w := by
  obtain ⟨c0, hc0, e1, e2⟩ : ∃ c0 : Int, w.cell? ⟨g, 0, none⟩ = some (.int .u8 c0) ∧ 48 ≤ c0 ∧ c0 ≤ 57 := ⟨f 0, HC.out 0 (by omega), (HD.out 0).1, (HD.out 0).2⟩
  have hb0 : (c0 == 43) = false := by simp; omega
  have hb1 : (c0 == 45) = false := by simp; omega
  have hm0 : ((m : Int) == 0) = false := by simp; omega
  have hd18 : decide (18 < (m : Int)) = false := by simp; omega
  have hd0 : decide (0 < m) = true := by simp; omega
  go_enter Try.func17, Try.ntmps17
  go_wp2_with fail
  go_loop [5, 36] (fun t5 t36 => ∃ (k : Nat) (v : Int), k ≤ m ∧ 0 ≤ v ∧ v ≤ 999999999999999999 ∧ t5 = .int .i64 v ∧ t36 = .int .i64 k ∧ readRel f k v) (fun _ t36 => m - (intOf t36).toNat)
  case atStart => exact ⟨0, 0, by omega, by omega, by omega, rfl, rfl, rfl⟩
  case round =>
    obtain ⟨k, v, hk, hv0, hv1, rfl, rfl, hr⟩ := hrel
    have Hr := hide hr
    by_cases hlt : k < m
    · have hc := HC.out k hlt
      obtain ⟨hd, he⟩ := HD.out k
      have hv2 : v ≤ 99999999999999999 := by
        have := (Dec.val_small f k 17 (by omega) (fun j _ => HD.out j)).2
        unfold readRel at hr
        omega
      have hnew := hide (Dec.val_small f (k + 1) 18 (by omega) (fun j _ => HD.out j))
      clear hr
      go_wp2
      go_round
      case rel =>
        have e : v * 10 + (f k - 48) = val f (k + 1) := by rw [show v = val f k from Hr.out]; rfl
        exact ⟨k + 1, val f (k + 1), by omega, hnew.out.1, by have := hnew.out.2; omega, by rw [e], by go_num, rfl⟩
      case measure => simp [intOf]; omega
    · have hkm : k = m := by omega
      subst hkm
      clear hr
      go_wp2
      go_ret2
      exact ⟨by rw [show val f k = v from Hr.out.symm]; rfl, rfl⟩

set_option maxHeartbeats 1000000 in
theorem short_plus (g cap m : Nat) (f : Nat → Int) (w : World) (hm1 : 1 ≤ m) (hm18 : m ≤ 18) (hmc : m + 1 ≤ cap) (hc0 : w.cell? ⟨g, 0, none⟩ = some (.int .u8 43))
    (HC : Hid (∀ j, j < m → w.cell? ⟨g, 1 + j, none⟩ = some (.int .u8 (f j)))) (HD : Hid (∀ j, 48 ≤ f j ∧ f j ≤ 57)) :
    Calls Try.prog 17 #[.slice (some ⟨g, 0, none⟩) (m + 1) cap] w fun e w' => e = .returned (.tuple #[.int .i64 (val f m), .bool true]) ∧ w' = w := by
  have hm0 : ((m : Int) == 0) = false := by simp; omega
  have hd18 : decide (18 < (m : Int)) = false := by simp; omega
  go_enter Try.func17, Try.ntmps17
  go_wp2_with fail
  go_loop [5, 36] (fun t5 t36 => ∃ (k : Nat) (v : Int), k ≤ m ∧ 0 ≤ v ∧ v ≤ 999999999999999999 ∧ t5 = .int .i64 v ∧ t36 = .int .i64 k ∧ readRel f k v) (fun _ t36 => m - (intOf t36).toNat)
  case atStart => exact ⟨0, 0, by omega, by omega, by omega, rfl, rfl, rfl⟩
  case round =>
    obtain ⟨k, v, hk, hv0, hv1, rfl, rfl, hr⟩ := hrel
    have Hr := hide hr
    by_cases hlt : k < m
    · have hc := HC.out k hlt
      obtain ⟨hd, he⟩ := HD.out k
      have hv2 : v ≤ 99999999999999999 := by
        have := (Dec.val_small f k 17 (by omega) (fun j _ => HD.out j)).2
        unfold readRel at hr
        omega
      have hnew := hide (Dec.val_small f (k + 1) 18 (by omega) (fun j _ => HD.out j))
      clear hr
      go_wp2
      go_round
      case rel =>
        have e : v * 10 + (f k - 48) = val f (k + 1) := by rw [show v = val f k from Hr.out]; rfl
        exact ⟨k + 1, val f (k + 1), by omega, hnew.out.1, by have := hnew.out.2; omega, by rw [e], by go_num, rfl⟩
      case measure => simp [intOf]; omega
    · have hkm : k = m := by omega
      subst hkm
      clear hr
      go_wp2
      go_ret2
      exact ⟨by rw [show val f k = v from Hr.out.symm]; rfl, rfl⟩

set_option maxHeartbeats 1000000 in
theorem short_minus (g cap m : Nat) (f : Nat → Int) (w : World) (hm1 : 1 ≤ m) (hm18 : m ≤ 18) (hmc : m + 1 ≤ cap) (hc0 : w.cell? ⟨g, 0, none⟩ = some (.int .u8 45))
    (HC : Hid (∀ j, j < m → w.cell? ⟨g, 1 + j, none⟩ = some (.int .u8 (f j)))) (HD : Hid (∀ j, 48 ≤ f j ∧ f j ≤ 57)) :
    Calls Try.prog 17 #[.slice (some ⟨g, 0, none⟩) (m + 1) cap] w fun e w' => e = .returned (.tuple #[.int .i64 (-val f m), .bool true]) ∧ w' = w := by
  have hm0 : ((m : Int) == 0) = false := by simp; omega
  have hd18 : decide (18 < (m : Int)) = false := by simp; omega
  go_enter Try.func17, Try.ntmps17
  go_wp2_with fail
  go_loop [5, 36] (fun t5 t36 => ∃ (k : Nat) (v : Int), k ≤ m ∧ 0 ≤ v ∧ v ≤ 999999999999999999 ∧ t5 = .int .i64 v ∧ t36 = .int .i64 k ∧ readRel f k v) (fun _ t36 => m - (intOf t36).toNat)
  case atStart => exact ⟨0, 0, by omega, by omega, by omega, rfl, rfl, rfl⟩
  case round =>
    obtain ⟨k, v, hk, hv0, hv1, rfl, rfl, hr⟩ := hrel
    have Hr := hide hr
    by_cases hlt : k < m
    · have hc := HC.out k hlt
      obtain ⟨hd, he⟩ := HD.out k
      have hv2 : v ≤ 99999999999999999 := by
        have := (Dec.val_small f k 17 (by omega) (fun j _ => HD.out j)).2
        unfold readRel at hr
        omega
      have hnew := hide (Dec.val_small f (k + 1) 18 (by omega) (fun j _ => HD.out j))
      clear hr
      go_wp2
      go_round
      case rel =>
        have e : v * 10 + (f k - 48) = val f (k + 1) := by rw [show v = val f k from Hr.out]; rfl
        exact ⟨k + 1, val f (k + 1), by omega, hnew.out.1, by have := hnew.out.2; omega, by rw [e], by go_num, rfl⟩
      case measure => simp [intOf]; omega
    · have hkm : k = m := by omega
      subst hkm
      clear hr
      go_wp2
      go_ret2
      exact ⟨by rw [show val f k = v from Hr.out.symm]; rfl, rfl⟩

set_option maxHeartbeats 1000000 in
theorem short_long (g cap m : Nat) (c0 : Int) (w : World) (hm18 : 18 < m) (hc0 : w.cell? ⟨g, 0, none⟩ = some (.int .u8 c0)) (e1 : 48 ≤ c0) (e2 : c0 ≤ 57) :
    Calls Try.prog 17 #[.slice (some ⟨g, 0, none⟩) m cap] w fun e w' => e = .returned (.tuple #[.int .i64 0, .bool false]) ∧ w' = w := by
  have hb0 : (c0 == 43) = false := by simp; omega
  have hb1 : (c0 == 45) = false := by simp; omega
  have hm0 : ((m : Int) == 0) = false := by simp; omega
  have hd18 : decide (18 < (m : Int)) = true := by simp; omega
  have hd0 : decide (0 < m) = true := by simp; omega
  go_enter Try.func17, Try.ntmps17
  go_wp2_with fail
  go_ret2
  exact ⟨rfl, rfl⟩

set_option maxHeartbeats 1000000 in
theorem short_long_sign (g cap m : Nat) (c0 : Int) (w : World) (hm18 : 18 < m) (hmc : m + 1 ≤ cap) (hc0 : w.cell? ⟨g, 0, none⟩ = some (.int .u8 c0)) (hs : c0 = 43 ∨ c0 = 45) :
    Calls Try.prog 17 #[.slice (some ⟨g, 0, none⟩) (m + 1) cap] w fun e w' => e = .returned (.tuple #[.int .i64 0, .bool false]) ∧ w' = w := by
  have hm0 : ((m : Int) == 0) = false := by simp; omega
  have hd18 : decide (18 < (m : Int)) = true := by simp; omega
  rcases hs with rfl | rfl
  all_goals
    go_enter Try.func17, Try.ntmps17
    go_wp2_with fail
    go_ret2
    exact ⟨rfl, rfl⟩

set_option maxHeartbeats 400000 in
theorem zzshort_of (x : Value) (r : Int) (b : Bool) (w : World)
    (h : Hid (Calls Try.prog 17 #[x] w fun e w' => e = .returned (.tuple #[.int .i64 r, .bool b]) ∧ w' = w)) :
    Calls Try.prog 12 #[x] w fun e w' => e = .returned (.tuple #[.int .i64 r, .bool b]) ∧ w' = w := by
  go_enter Try.func12, Try.ntmps12
  go_wp2_with fail
  refine Calls.mono h.out ?_
  rintro e w1 ⟨rfl, hw1⟩
  subst hw1
  go_wp2_with fail
  go_ret2
  exact ⟨rfl, rfl⟩

end Go.Proofs.Qxb6601318a
