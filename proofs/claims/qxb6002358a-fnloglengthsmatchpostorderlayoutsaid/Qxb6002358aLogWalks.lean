/-
  The walks of nodesBefore, logHead.lengths and their shim.
-/
import Derived.Test.Qxb6002358aPopWalks
import Derived.Deep.RegionHeld3
namespace Go.Proofs.Qxb6002358a
open Go.RowKit

set_option maxHeartbeats 400000 in
theorem nodesBefore_any (x p : Int) (w : World) (h0 : 0 ≤ x) (h1 : x ≤ 2199023255552) (hp : p ≤ 64) (hp0 : 0 ≤ p) (hq : p ≤ x) (he : Hid ((Pop.pop x.toNat : Int) = p)) :
    Calls Try.prog 35 #[.int .u64 x] w fun e w' => e = .returned (.int .u64 (2 * x - p)) ∧ w' = w := by
  go_enter Try.func35, Try.ntmps35
  go_wp2_with fail
  refine (onesCount_any _ _ h0 (by omega)).mono ?_
  rintro e w1 ⟨rfl, hw1⟩
  subst hw1
  rw [Pop.unhide he]
  go_wp2_with fail
  go_ret
  exact ⟨rfl, rfl⟩

/-- a head's cells: size, length, a root of zeros, heads. -/
def headCells (a b c : Int) : Array Value :=
  #[.int .u64 a, .int .u64 b, .int .u8 0, .int .u8 0, .int .u8 0, .int .u8 0, .int .u8 0, .int .u8 0, .int .u8 0, .int .u8 0, .int .u8 0, .int .u8 0, .int .u8 0, .int .u8 0, .int .u8 0, .int .u8 0, .int .u8 0, .int .u8 0,
    .int .u8 0, .int .u8 0, .int .u8 0, .int .u8 0, .int .u8 0, .int .u8 0, .int .u8 0, .int .u8 0, .int .u8 0, .int .u8 0, .int .u8 0, .int .u8 0, .int .u8 0, .int .u8 0, .int .u8 0, .int .u8 0, .int .u64 c]

def lenCells (a b c n : Int) : Array Value := #[.int .i64 b, .int .i64 (a * 8), .int .i64 (n * 32), .int .i64 (c * 40)]

theorem wrap_i64_of (x : Int) (h0 : 0 ≤ x) (h1 : x < 9223372036854775808) : IntKind.i64.wrap x = x := by
  simp [IntKind.wrap, IntKind.bits, IntKind.signed]; omega

set_option maxHeartbeats 1000000 in
theorem lengths_any (a b c p : Int) (w : World) (h0 : 0 ≤ a) (h1 : a ≤ 2199023255552) (h2 : 0 ≤ b) (h3 : b ≤ 4611686018427387904) (h4 : 0 ≤ c) (h5 : c ≤ 1099511627776)
    (hp : p ≤ 64) (hp0 : 0 ≤ p) (hq : p ≤ a) (he : Hid ((Pop.pop a.toNat : Int) = p)) :
    Calls Try.prog 32 #[.agg (headCells a b c)] w fun e w' => e = .returned (.agg (lenCells a b c (2 * a - p))) ∧ w' = ((w.alloc (.cells (headCells a b c) 50)).alloc (.cells (lenCells a b c (2 * a - p)) 42)).drew := by
  have k1 := Pop.hide (wrap_i64_of b h2 (by omega))
  have k2 := Pop.hide (wrap_i64_of a h0 (by omega))
  have k3 := Pop.hide (wrap_i64_of (a * 8) (by omega) (by omega))
  have k4 := Pop.hide (wrap_i64_of (2 * a - p) (by omega) (by omega))
  have k5 := Pop.hide (wrap_i64_of ((2 * a - p) * 32) (by omega) (by omega))
  have k6 := Pop.hide (wrap_i64_of c (by omega) (by omega))
  have k7 := Pop.hide (wrap_i64_of (c * 40) (by omega) (by omega))
  unfold headCells
  go_enter Try.func32, Try.ntmps32
  go_wp2_with fail
  go_region_held3 (fun w' => w'.cell? ⟨w.heap.size, 0, none⟩ = some (.int .u64 a) ∧ w'.cell? ⟨w.heap.size, 1, none⟩ = some (.int .u64 b) ∧ w'.cell? ⟨w.heap.size, 34, none⟩ = some (.int .u64 c)) (go_keep) (first | (go_at_call 35; refine (nodesBefore_any a p _ h0 h1 hp hp0 hq he).mono ?_; rintro e w' ⟨rfl, rfl⟩))
  simp only [k1.out, k2.out, k3.out, k4.out, k5.out, k6.out, k7.out]
  go_wp2_with fail
  exact bodyPost_ret (v := .agg #[.int .i64 b, .int .i64 (a * 8), .int .i64 ((2 * a - p) * 32), .int .i64 (c * 40)]) (by simp [results, Try.results32, go_sem]) rfl ⟨rfl, rfl⟩

set_option maxHeartbeats 1000000 in
theorem zzLengths_any (a b c p : Int) (w : World) (h0 : 0 ≤ a) (h1 : a ≤ 2199023255552) (h2 : 0 ≤ b) (h3 : b ≤ 4611686018427387904) (h4 : 0 ≤ c) (h5 : c ≤ 1099511627776)
    (hp : p ≤ 64) (hp0 : 0 ≤ p) (hq : p ≤ a) (he : Hid ((Pop.pop a.toNat : Int) = p)) :
    Calls Try.prog 22 #[.int .u64 a, .int .u64 b, .int .u64 c] w fun e w' => e = .returned (.agg (lenCells a b c (2 * a - p))) ∧
      w' = (((w.alloc (.cells (lenCells a b c (2 * a - p)) 42)).alloc (.cells (headCells a b c) 50)).alloc (.cells (lenCells a b c (2 * a - p)) 42)).drew := by
  go_enter Try.func22, Try.ntmps22
  go_wp2_with fail
  refine (lengths_any a b c p _ h0 h1 h2 h3 h4 h5 hp hp0 hq he).mono ?_
  rintro e w1 ⟨rfl, hw1⟩
  subst hw1
  unfold lenCells headCells
  go_wp2_with fail
  exact bodyPost_ret (v := .agg #[.int .i64 b, .int .i64 (a * 8), .int .i64 ((2 * a - p) * 32), .int .i64 (c * 40)]) (by simp [results, Try.results22, go_sem]) rfl ⟨rfl, rfl⟩

end Go.Proofs.Qxb6002358a
