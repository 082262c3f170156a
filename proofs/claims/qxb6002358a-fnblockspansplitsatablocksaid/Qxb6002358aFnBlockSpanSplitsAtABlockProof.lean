/-
  The span of blocks lo to hi splits at a block between: the statement's proof (the frame: the guide's shell).
-/
import Derived.Test.Qxb6002358aRows
import Derived.Test.Qxb6002358aHead
import Derived.Test.Qxb6002358aSplitWalks
import Derived.WalkKit
import Derived.ProofKit
import Derived.OpenShut
import Derived.ShutString
namespace Go.Proofs.Qxb6002358a.fnBlockSpanSplitsAtABlock
open Go.ChangeShapes Go.WideShapes Go.ChangeAt Go.RowKit
open Go.ChangeMaps (open_string shut_string)
set_option linter.unusedVariables false      -- a walk need not use every 'w<i>' (that an integer argument fits its kind)

theorem own : ownKnob Try.prog.godebug = none := by kernel_rfl

set_option maxHeartbeats 800000 in
theorem outside (lo mid hi S L c : Int) (w : World) (h0 : 0 ≤ L) (h1 : L ≤ 1099511627776) (h2 : 1 ≤ S) (h3 : S ≤ 1048576) (hc : Hid (Block.cnt L S = c))
    (hn : mid ≤ lo ∨ (lo < mid ∧ hi ≤ mid) ∨ (lo < mid ∧ mid < hi ∧ c < hi)) :
    Calls Try.prog 10 #[.int .u64 lo, .int .u64 mid, .int .u64 hi, .int .i64 S, .int .i64 L] w fun e w' => e = .returned (.bool true) ∧ Grown w w' := by
  rcases hn with k1 | ⟨k1, k2⟩ | ⟨k1, k2, k3⟩
  · go_enter Try.func10, Try.ntmps10
    go_wp2_with fail
    refine (zzBlockCount_any _ _ _ h0 h1 h2 h3).mono ?_
    rintro e w1 ⟨rfl, hw1⟩
    subst hw1
    rw [Block.unhide hc]
    go_wp2_with fail
    go_ret
    exact ⟨rfl, Grown.refl _⟩
  · go_enter Try.func10, Try.ntmps10
    go_wp2_with fail
    refine (zzBlockCount_any _ _ _ h0 h1 h2 h3).mono ?_
    rintro e w1 ⟨rfl, hw1⟩
    subst hw1
    rw [Block.unhide hc]
    go_wp2_with fail
    go_ret
    exact ⟨rfl, Grown.refl _⟩
  · have k4 : decide (hi ≤ c) = false := by simp; omega
    clear k3
    go_enter Try.func10, Try.ntmps10
    go_wp2_with fail
    refine (zzBlockCount_any _ _ _ h0 h1 h2 h3).mono ?_
    rintro e w1 ⟨rfl, hw1⟩
    subst hw1
    rw [Block.unhide hc]
    go_wp2_with fail
    go_ret
    exact ⟨rfl, Grown.refl _⟩

/-! ### STEP 1: THE WALK: the Go text returns true. 'Grown w w'': the world has at most new blocks (Derived/RowKit3.lean). Part the cases AHEAD of 'go_enter' where a test parts the walk; take each callee by a contract of your own. -/
theorem walk (a0 : Int) (a1 : Int) (a2 : Int) (a3 : Int) (a4 : Int) (w0 : (Lit.int .u64 a0).wf = true) (w1 : (Lit.int .u64 a1).wf = true) (w2 : (Lit.int .u64 a2).wf = true) (w3 : (Lit.int .i64 a3).wf = true) (w4 : (Lit.int .i64 a4).wf = true) (w : World) :
    Calls Try.prog 10 #[.int .u64 a0, .int .u64 a1, .int .u64 a2, .int .i64 a3, .int .i64 a4] w fun e w' => e = .returned (.bool true) ∧ Grown w w' := by
  obtain ⟨h00, h01⟩ := bounds_u64 w0
  obtain ⟨h10, h11⟩ := bounds_u64 w1
  obtain ⟨h20, h21⟩ := bounds_u64 w2
  obtain ⟨h30, h31⟩ := bounds_i64 w3
  obtain ⟨h40, h41⟩ := bounds_i64 w4
  by_cases c1 : a4 < 0
  · go_enter Try.func10, Try.ntmps10
    go_wp2_with fail
    go_ret
    exact ⟨rfl, Grown.refl _⟩
  by_cases c2 : 1099511627776 < a4
  · go_enter Try.func10, Try.ntmps10
    go_wp2_with fail
    go_ret
    exact ⟨rfl, Grown.refl _⟩
  by_cases c3 : a3 < 1
  · go_enter Try.func10, Try.ntmps10
    go_wp2_with fail
    go_ret
    exact ⟨rfl, Grown.refl _⟩
  by_cases c4 : 1048576 < a3
  · go_enter Try.func10, Try.ntmps10
    go_wp2_with fail
    go_ret
    exact ⟨rfl, Grown.refl _⟩
  have h0 : 0 ≤ a4 := by omega
  have h2 : 1 ≤ a3 := by omega
  by_cases c5 : a0 < a1 ∧ a1 < a2 ∧ a2 ≤ Block.cnt a4 a3
  · obtain ⟨k1, k2, k3⟩ := c5
    have hle := Block.cnt_le (S := a3) h0
    have hL : 0 < a4 := by omega
    have hl := Block.cnt_least hL h2
    have p1 : 0 ≤ a0 * a3 := Block.mul_nn (by omega) h2
    have p2 : a0 * a3 ≤ a1 * a3 := Block.mul_mono (by omega) h2
    have p3 : a1 * a3 ≤ (Block.cnt a4 a3 - 1) * a3 := Block.mul_mono (by omega) h2
    have p4 : 0 ≤ a2 * a3 := Block.mul_nn (by omega) h2
    have p5 : a2 * a3 ≤ Block.cnt a4 a3 * a3 := Block.mul_mono (by omega) h2
    have p6 : Block.cnt a4 a3 * a3 = (Block.cnt a4 a3 - 1) * a3 + a3 := by rw [← Block.succ_mul]; simp
    have p7 : (a1 + 1) * a3 ≤ a2 * a3 := Block.mul_mono (by omega) h2
    have p8 := Block.succ_mul a1 a3
    have q : (a1 - a0) * a3 = a1 * a3 - a0 * a3 := Int.sub_mul ..
    have r : (a2 - a1) * a3 = a2 * a3 - a1 * a3 := Int.sub_mul ..
    have s : (a2 - a0) * a3 = a2 * a3 - a0 * a3 := Int.sub_mul ..
    by_cases hin : a2 * a3 ≤ a4
    · exact split_main a0 a1 a2 a3 a4 _ _ _ w h0 (by omega) h2 (by omega) (Block.hide rfl) (by omega) (by omega) k1 k2 k3 p1 p2 (by omega) p4 (by omega)
        (by omega) (by omega) (by omega) (by omega) (by omega) (by omega) (by omega) (by omega)
        (Block.hide (span_in h2 (by omega))) (Block.hide (span_in h2 hin)) (Block.hide (span_in h2 hin)) (by omega) (by omega) (by omega) (by omega) (by omega)
    · exact split_main a0 a1 a2 a3 a4 _ _ _ w h0 (by omega) h2 (by omega) (Block.hide rfl) (by omega) (by omega) k1 k2 k3 p1 p2 (by omega) p4 (by omega)
        (by omega) (by omega) (by omega) (by omega) (by omega) (by omega) (by omega) (by omega)
        (Block.hide (span_in h2 (by omega))) (Block.hide (span_out h2 hin)) (Block.hide (span_out h2 hin)) (by omega) (by omega) (by omega) (by omega) (by omega)
  · exact outside a0 a1 a2 a3 a4 _ w h0 (by omega) h2 (by omega) (Block.hide rfl) (by omega)

/-! ### THE ROW's STEP: WRITTEN OUT: LEAVE IT -/
set_option maxRecDepth 100000 in
theorem lifted (os : Os) (started : os.Started) (H : Type) (enc : TypeId × Value → H) :
    ReturnsInHanded {} Try.checked os 10 .any (Rows.fnBlockSpanSplitsAtABlockSpec.pre6 enc Try.prog Try.f10 Rows.fnBlockSpanSplitsAtABlockRow.domain false) (Rows.fnBlockSpanSplitsAtABlockSpec.post enc Try.prog Try.f10 false true false false) := by
  refine returnsInHanded_of_change (C := Try.checked) own started (by kernel_rfl) Try.func10
    (ChangeSpec.witness6 (enc := enc) (C := Try.checked) false ⟨#[], #[.int .u64 0, .int .u64 0, .int .u64 0, .int .i64 0, .int .i64 0], []⟩ 8 (by kernel_rfl) (by kernel_rfl) (by kernel_rfl) (by kernel_rfl)) ?_
  intro W base args ds gs before hval0 hW hcnd _
  have hval : ∀ (j : Nat) t v, Try.f10.params[j]? = some t → args[j]? = some v → Value.okWide Try.prog W .any base t v := hval0
  have hW' := hW
  obtain ⟨p, q, hA0, hV, rfl, hfz, hnd⟩ := hW
  have hA : DataW.TrodAll enc Try.prog W 0 (fun _ => true) true Try.f10.params.toList args.toList ds p := hA0
  rw [Try.params10] at hA hval
  obtain ⟨v0, vs0, d0, ds0, p0, q0, hargs, rfl, rfl, h0, r0⟩ := trodAll_cons hA
  obtain ⟨v1, vs1, d1, ds1, p1, q1, rfl, rfl, rfl, h1, r1⟩ := trodAll_cons r0
  obtain ⟨v2, vs2, d2, ds2, p2, q2, rfl, rfl, rfl, h2, r2⟩ := trodAll_cons r1
  obtain ⟨v3, vs3, d3, ds3, p3, q3, rfl, rfl, rfl, h3, r3⟩ := trodAll_cons r2
  obtain ⟨v4, vs4, d4, ds4, p4, q4, rfl, rfl, rfl, h4, r4⟩ := trodAll_cons r3
  obtain ⟨rfl, rfl, rfl⟩ := trodAll_nil r4
  obtain rfl : args = #[v0, v1, v2, v3, v4] := by cases args; simp_all
  obtain ⟨rfl, rfl⟩ := trodVars_none hV
  obtain ⟨a0, rfl, rfl, rfl, w0⟩ := open_int Try.underlying30 (hval 0 30 v0 rfl rfl) h0
  obtain ⟨a1, rfl, rfl, rfl, w1⟩ := open_int Try.underlying30 (hval 1 30 v1 rfl rfl) h1
  obtain ⟨a2, rfl, rfl, rfl, w2⟩ := open_int Try.underlying30 (hval 2 30 v2 rfl rfl) h2
  obtain ⟨a3, rfl, rfl, rfl, w3⟩ := open_int Try.underlying2 (hval 3 2 v3 rfl rfl) h3
  obtain ⟨a4, rfl, rfl, rfl, w4⟩ := open_int Try.underlying2 (hval 4 2 v4 rfl rfl) h4
  clear hA0 hval0
  simp only [List.append_nil] at hW'
  refine (walk a0 a1 a2 a3 a4 w0 w1 w2 w3 w4 W).mono fun e W' ⟨he, hg⟩ => ?_
  subst he
  exact ⟨_, rfl, post_of_same (pa := []) (pv := []) hW' (fun _ _ _ => (trodAll_cons_mk (shut_bool Try.underlying4 _) trodAll_mk0)) (fun sp _ => (trodAll_cons_mk (shut_int Try.underlying30 w0) (trodAll_cons_mk (shut_int Try.underlying30 w1) (trodAll_cons_mk (shut_int Try.underlying30 w2) (trodAll_cons_mk (shut_int Try.underlying2 w3) (trodAll_cons_mk (shut_int Try.underlying2 w4) trodAll_mk0)))))) (fun _ _ => rfl) rfl
    (hg.frame _) hg.2.1 (ok_one (by kernel_rfl) rfl (okWide_bool_mk Try.underlying4 _))⟩

theorem closed : joinedFacts Try.prog 10 Try.f10 Rows.fnBlockSpanSplitsAtABlockSpec Rows.fnBlockSpanSplitsAtABlockRow = true :=
  Head.and8 (by kernel_rfl) Head.mayEnter_eq (Head.lifted_by Head.liftsFinal_eq rfl) (Head.make_by Head.make_eq rfl) (by kernel_rfl) (by kernel_rfl) (by kernel_rfl) (by kernel_rfl)

theorem over : Rows.fnBlockSpanSplitsAtABlockRow.holds Try.pinned (OpenSpec.ofChange Rows.fnBlockSpanSplitsAtABlockSpec) :=
  OpenClaim.holds_of_wide 10 Try.f10 rfl rfl rfl rfl rfl rfl rfl ⟨rfl, rfl, rfl, rfl, rfl⟩ rfl rfl rfl rfl rfl (by kernel_rfl) Try.func10 closed
    (of_decide_eq_true (by kernel_rfl)) (by unfold Func.isWrapper; first | (rw [if_pos (by decide +kernel)]; kernel_rfl) | (rw [if_neg (by decide +kernel)]; exact ⟨rfl, rfl⟩))
    (fun os started H enc _ => lifted os started H enc)

/-- ████ THE STATEMENT ████ -/
theorem proved : Rows.FnBlockSpanSplitsAtABlockSaid :=
  over
#print axioms proved
end Go.Proofs.Qxb6002358a.fnBlockSpanSplitsAtABlock
