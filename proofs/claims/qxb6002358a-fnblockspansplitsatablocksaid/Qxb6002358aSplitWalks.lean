/-
  The walk of FnBlockSpanSplitsAtABlock in the case that it speaks of.
-/
import Derived.Test.Qxb6002358aBlockWalks
namespace Go.Proofs.Qxb6002358a
open Go.RowKit
open Block (cnt spanLen hide unhide)

theorem span_in {lo hi S L : Int} (h2 : 1 ≤ S) (h : hi * S ≤ L) : spanLen lo hi S L = (hi - lo) * S := by
  unfold spanLen
  rw [if_pos ((Block.cond_iff h2).2 (by rw [Int.sub_mul]; omega))]

theorem span_out {lo hi S L : Int} (h2 : 1 ≤ S) (h : ¬ hi * S ≤ L) : spanLen lo hi S L = L - lo * S := by
  unfold spanLen
  rw [if_neg (fun hc => by rw [Block.cond_iff h2, Int.sub_mul] at hc; omega)]

set_option maxHeartbeats 1000000 in
theorem split_main (lo mid hi S L c x y : Int) (w : World) (h0 : 0 ≤ L) (h1 : L ≤ 1099511627776) (h2 : 1 ≤ S) (h3 : S ≤ 1048576) (hc : Hid (cnt L S = c)) (hcb : c ≤ 1099511627777)
    (hlo : 0 ≤ lo) (hlm : lo < mid) (hmh : mid < hi) (hhc : hi ≤ c)
    (p1 : 0 ≤ lo * S) (p2 : lo * S ≤ mid * S) (p3 : mid * S < L) (p4 : 0 ≤ hi * S) (p5 : hi * S ≤ 2199023255552)
    (q1 : (mid - lo) * S ≤ mid * S - lo * S) (q2 : mid * S - lo * S ≤ (mid - lo) * S)
    (r1 : (hi - mid) * S ≤ hi * S - mid * S) (r2 : hi * S - mid * S ≤ (hi - mid) * S) (r3 : 0 ≤ (hi - mid) * S)
    (s1 : (hi - lo) * S ≤ hi * S - lo * S) (s2 : hi * S - lo * S ≤ (hi - lo) * S) (s3 : 0 ≤ (hi - lo) * S)
    (ha : Hid (spanLen lo mid S L = (mid - lo) * S)) (hx : Hid (spanLen mid hi S L = x)) (hy : Hid (spanLen lo hi S L = y))
    (t1 : 1 ≤ x) (t2 : x ≤ L) (t3 : y ≤ mid * S - lo * S + x) (t4 : mid * S - lo * S + x ≤ y) (t5 : lo * S + y ≤ L) :
    Calls Try.prog 10 #[.int .u64 lo, .int .u64 mid, .int .u64 hi, .int .i64 S, .int .i64 L] w fun e w' => e = .returned (.bool true) ∧ Grown w w' := by
  go_enter Try.func10, Try.ntmps10
  go_wp2_with fail
  refine (zzBlockCount_any _ _ _ h0 h1 h2 h3).mono ?_
  rintro e w1 ⟨rfl, hw1⟩
  subst hw1
  rw [unhide hc]
  go_wp2_with fail
  refine (zzBlockSpan_any lo mid S L _ h0 h1 h2 h3 (by omega) (by omega) (by omega) (by omega) (by omega) (by omega) (by omega)).mono ?_
  rintro e w2 ⟨rfl, hw2⟩
  subst hw2
  rw [unhide ha]
  unfold spanObj
  go_wp2_with fail
  refine (zzBlockSpan_any mid hi S L _ h0 h1 h2 h3 (by omega) (by omega) (by omega) (by omega) (by omega) (by omega) (by omega)).mono ?_
  rintro e w3 ⟨rfl, hw3⟩
  subst hw3
  rw [unhide hx]
  unfold spanObj
  go_wp2_with fail
  refine (zzBlockSpan_any lo hi S L _ h0 h1 h2 h3 (by omega) (by omega) (by omega) (by omega) (by omega) (by omega) (by omega)).mono ?_
  rintro e w4 ⟨rfl, hw4⟩
  subst hw4
  rw [unhide hy]
  unfold spanObj
  go_wp2_with fail
  go_ret
  exact ⟨rfl, by repeat (first | exact Grown.refl _ | apply Grown.alloc)⟩

end Go.Proofs.Qxb6002358a
