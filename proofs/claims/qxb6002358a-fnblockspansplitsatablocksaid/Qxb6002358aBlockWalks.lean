/-
  The walks of blockCount, blockSpan and their shims.
-/
import Derived.Test.Qxb6002358aProg
import Derived.Test.Qxb6002358aBlockMath
import Derived.WalkKit
import Derived.ProofKit
namespace Go.Proofs.Qxb6002358a
open Go.RowKit
open Block (cnt spanLen)

namespace Block
theorem hide {p : Prop} (h : p) : Hid p := h
theorem unhide {p : Prop} (h : Hid p) : p := h.out
theorem ret_int {k : IntKind} {a b : Int} (h : a = b) : Ending.returned (.int k a) = .returned (.int k b) := by rw [h]
end Block

set_option maxHeartbeats 400000 in
theorem blockCount_any (L S : Int) (w : World) (h0 : 0 ≤ L) (h1 : L ≤ 1099511627776) (h2 : 1 ≤ S) (h3 : S ≤ 1048576) :
    Calls Try.prog 28 #[.int .u64 L, .int .u64 S] w fun e w' => e = .returned (.int .u64 (cnt L S)) ∧ w' = w := by
  by_cases hL : L = 0
  · subst hL
    have hc := Block.hide (Block.cnt_zero S)
    go_enter Try.func28, Try.ntmps28
    go_wp2_with fail
    go_ret
    exact ⟨Block.ret_int hc.out.symm, rfl⟩
  · have hc := Block.hide (show cnt L S = (L - 1) / S + 1 by unfold cnt; rw [if_neg hL])
    have hd0 : 0 ≤ (L - 1) / S := Int.ediv_nonneg (by omega) (by omega)
    have hd1 : (L - 1) / S ≤ L - 1 := Int.ediv_le_self _ (by omega)
    have hL1 : 1 ≤ L := by omega
    clear hL
    go_enter Try.func28, Try.ntmps28
    go_wp2_with fail
    go_ret
    exact ⟨Block.ret_int hc.out.symm, rfl⟩

set_option maxHeartbeats 400000 in
theorem zzBlockCount_any (L S : Int) (w : World) (h0 : 0 ≤ L) (h1 : L ≤ 1099511627776) (h2 : 1 ≤ S) (h3 : S ≤ 1048576) :
    Calls Try.prog 17 #[.int .u64 L, .int .u64 S] w fun e w' => e = .returned (.int .u64 (cnt L S)) ∧ w' = w := by
  go_enter Try.func17, Try.ntmps17
  go_wp2_with fail
  refine (blockCount_any _ _ _ h0 h1 h2 h3).mono ?_
  rintro e w1 ⟨rfl, hw1⟩
  subst hw1
  go_wp2_with fail
  go_ret
  exact ⟨rfl, rfl⟩

/-- the block that a span's result lies in. -/
def spanObj (st ln : Int) : Obj := .cells #[.int .i64 st, .int .i64 ln] 33

set_option maxHeartbeats 400000 in
theorem blockSpan_any (lo hi S L : Int) (w : World) (h0 : 0 ≤ L) (h1 : L ≤ 1099511627776) (h2 : 1 ≤ S) (h3 : S ≤ 1048576) (h4 : 0 ≤ lo) (h5 : lo ≤ hi) (h6 : hi ≤ 2199023255552)
    (h7 : 0 ≤ lo * S) (h8 : lo * S ≤ L) (h9 : 0 ≤ (hi - lo) * S) (h10 : (hi - lo) * S ≤ 2199023255552) :
    Calls Try.prog 29 #[.int .u64 lo, .int .u64 hi, .int .i64 S, .int .i64 L] w fun e w' => e = .returned (.agg #[.int .i64 (lo * S), .int .i64 (spanLen lo hi S L)]) ∧ w' = w.alloc (spanObj (lo * S) (spanLen lo hi S L)) := by
  by_cases hc : hi - lo ≤ (L - lo * S) / S
  · have hs := Block.hide (show spanLen lo hi S L = (hi - lo) * S by unfold spanLen; rw [if_pos hc])
    go_enter Try.func29, Try.ntmps29
    go_wp2_with fail
    exact bodyPost_ret (v := .agg #[.int .i64 (lo * S), .int .i64 ((hi - lo) * S)]) (by simp [results, Try.results29, go_sem]) rfl ⟨by rw [hs.out], by rw [hs.out]; rfl⟩
  · have hs := Block.hide (show spanLen lo hi S L = L - lo * S by unfold spanLen; rw [if_neg hc])
    go_enter Try.func29, Try.ntmps29
    go_wp2_with fail
    exact bodyPost_ret (v := .agg #[.int .i64 (lo * S), .int .i64 (L - lo * S)]) (by simp [results, Try.results29, go_sem]) rfl ⟨by rw [hs.out], by rw [hs.out]; rfl⟩

set_option maxHeartbeats 400000 in
theorem zzBlockSpan_any (lo hi S L : Int) (w : World) (h0 : 0 ≤ L) (h1 : L ≤ 1099511627776) (h2 : 1 ≤ S) (h3 : S ≤ 1048576) (h4 : 0 ≤ lo) (h5 : lo ≤ hi) (h6 : hi ≤ 2199023255552)
    (h7 : 0 ≤ lo * S) (h8 : lo * S ≤ L) (h9 : 0 ≤ (hi - lo) * S) (h10 : (hi - lo) * S ≤ 2199023255552) :
    Calls Try.prog 18 #[.int .u64 lo, .int .u64 hi, .int .i64 S, .int .i64 L] w fun e w' => e = .returned (.agg #[.int .i64 (lo * S), .int .i64 (spanLen lo hi S L)]) ∧ w' = (w.alloc (spanObj (lo * S) (spanLen lo hi S L))).alloc (spanObj (lo * S) (spanLen lo hi S L)) := by
  go_enter Try.func18, Try.ntmps18
  go_wp2_with fail
  refine (blockSpan_any _ _ _ _ _ h0 h1 h2 h3 h4 h5 h6 h7 h8 h9 h10).mono ?_
  rintro e w1 ⟨rfl, hw1⟩
  subst hw1
  unfold spanObj
  go_wp2_with fail
  exact bodyPost_ret (v := .agg #[.int .i64 (lo * S), .int .i64 (spanLen lo hi S L)]) (by simp [results, Try.results18, go_sem]) rfl ⟨rfl, rfl⟩

end Go.Proofs.Qxb6002358a
