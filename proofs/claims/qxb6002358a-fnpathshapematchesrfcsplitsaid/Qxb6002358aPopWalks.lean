/-
  The walk of math/bits.OnesCount64.
-/
import Derived.Test.Qxb6002358aProg
import Derived.Test.Qxb6002358aPopMath
import Derived.WalkKit
import Derived.ProofKit
namespace Go.Proofs.Qxb6002358a
open Go.RowKit

namespace Pop
theorem hide {p : Prop} (h : p) : Hid p := h
theorem unhide {p : Prop} (h : Hid p) : p := h.out
theorem ret_int {k : IntKind} {a b : Int} (h : a = b) : Ending.returned (.int k a) = .returned (.int k b) := by rw [h]
end Pop

theorem and127_i64 (x : Nat) : bits .and .i64 (x : Int) 127 = ((x % 128 : Nat) : Int) := by
  rw [i64_and127]; omega

set_option maxHeartbeats 1000000 in
theorem onesCount_stages (x x1 x2 x3 x4 x5 x6 r : Nat) (w : World) (_h0 : x < 18446744073709551616)
    (b1 : x1 ≤ 12297829382473034410) (b2 : x2 ≤ 4919131752989213764) (_b3 : x3 ≤ 578721382704613384) (b4 : x4 ≤ 1157442765409226768) (b5 : x5 ≤ 2314885530818453536) (b6 : x6 ≤ 4629771061636907072)
    (h1 : bits BinOp.and .u64 ((x : Int) / 2) 6148914691236517205 + bits BinOp.and .u64 (x : Int) 6148914691236517205 = (x1 : Int))
    (h2 : bits BinOp.and .u64 ((x1 : Int) / 4) 3689348814741910323 + bits BinOp.and .u64 (x1 : Int) 3689348814741910323 = (x2 : Int))
    (h3 : bits BinOp.and .u64 ((x2 : Int) / 16 + (x2 : Int)) 1085102592571150095 = (x3 : Int))
    (h4 : (x3 : Int) + (x3 : Int) / 256 = (x4 : Int))
    (h5 : (x4 : Int) + (x4 : Int) / 65536 = (x5 : Int))
    (h6 : (x5 : Int) + (x5 : Int) / 4294967296 = (x6 : Int))
    (h7 : bits BinOp.and .i64 (x6 : Int) 127 = (r : Int)) :
    Calls Try.prog 34 #[.int .u64 x] w fun e w' => e = .returned (.int .i64 r) ∧ w' = w := by
  go_enter Try.func34, Try.ntmps34
  go_wp2_with fail
  go_ret
  exact ⟨rfl, rfl⟩

theorem onesCount_nat (x : Nat) (w : World) (h0 : x < 18446744073709551616) :
    Calls Try.prog 34 #[.int .u64 x] w fun e w' => e = .returned (.int .i64 (Pop.pop x)) ∧ w' = w := by
  have h := Pop.swar x _ _ _ _ _ _ rfl rfl rfl rfl rfl rfl
  generalize hx1 : (x / 2 &&& 6148914691236517205) + (x &&& 6148914691236517205) = x1 at h
  generalize hx2 : (x1 / 4 &&& 3689348814741910323) + (x1 &&& 3689348814741910323) = x2 at h
  generalize hx3 : (x2 / 16 + x2) &&& 1085102592571150095 = x3 at h
  generalize hx4 : x3 + x3 / 256 = x4 at h
  generalize hx5 : x4 + x4 / 65536 = x5 at h
  generalize hx6 : x5 + x5 / 4294967296 = x6 at h
  obtain ⟨b1, b2, b3, hp⟩ := h
  refine onesCount_stages x x1 x2 x3 x4 x5 x6 (Pop.pop x) w h0 b1 b2 b3 (by omega) (by omega) (by omega) ?_ ?_ ?_ (by omega) (by omega) (by omega) ?_
  · have k1 := u64_and_nat (x / 2) 6148914691236517205 (by omega) (by omega)
    have k2 := u64_and_nat x 6148914691236517205 h0 (by omega)
    rw [← hx1, Int.natCast_add, ← k1, ← k2]; simp
  · have k1 := u64_and_nat (x1 / 4) 3689348814741910323 (by omega) (by omega)
    have k2 := u64_and_nat x1 3689348814741910323 (by omega) (by omega)
    rw [← hx2, Int.natCast_add, ← k1, ← k2]; simp
  · have k1 := u64_and_nat (x2 / 16 + x2) 1085102592571150095 (by omega) (by omega)
    rw [← hx3, ← k1]; simp
  · rw [and127_i64 x6, hp]

theorem onesCount_any (x : Int) (w : World) (h0 : 0 ≤ x) (h1 : x < 18446744073709551616) :
    Calls Try.prog 34 #[.int .u64 x] w fun e w' => e = .returned (.int .i64 (Pop.pop x.toNat)) ∧ w' = w := by
  have h := onesCount_nat x.toNat w (by omega)
  rwa [Int.toNat_of_nonneg h0] at h

end Go.Proofs.Qxb6002358a
