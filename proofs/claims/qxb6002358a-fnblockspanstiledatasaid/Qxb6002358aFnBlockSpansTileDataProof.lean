/-
  The spans of the single blocks tile the data: the statement's proof (the frame: the guide's shell).
-/
import Derived.Test.Qxb6002358aRows
import Derived.Test.Qxb6002358aHead
import Derived.Test.Qxb6002358aTileWalks
import Derived.WalkKit
import Derived.ProofKit
import Derived.OpenShut
import Derived.ShutString
namespace Go.Proofs.Qxb6002358a.fnBlockSpansTileData
open Go.ChangeShapes Go.WideShapes Go.ChangeAt Go.RowKit
open Go.ChangeMaps (open_string shut_string)
set_option linter.unusedVariables false      -- a walk need not use every 'w<i>' (that an integer argument fits its kind)

theorem own : ownKnob Try.prog.godebug = none := by kernel_rfl

set_option maxHeartbeats 400000 in
theorem many (L S c : Int) (w : World) (h0 : 0 ≤ L) (h1 : L ≤ 1099511627776) (h2 : 1 ≤ S) (h3 : S ≤ 1048576) (hc : Hid (Block.cnt L S = c)) (hb : 65536 < c) :
    Calls Try.prog 9 #[.int .i64 L, .int .i64 S] w fun e w' => e = .returned (.bool true) ∧ Grown w w' := by
  go_enter Try.func9, Try.ntmps9
  go_wp2_with fail
  refine (zzBlockCount_any _ _ _ h0 h1 h2 h3).mono ?_
  rintro e w1 ⟨rfl, hw1⟩
  subst hw1
  rw [Block.unhide hc]
  go_wp2_with fail
  go_ret
  exact ⟨rfl, Grown.refl _⟩

/-! ### STEP 1: THE WALK: the Go text returns true. 'Grown w w'': the world has at most new blocks (Derived/RowKit3.lean). Part the cases AHEAD of 'go_enter' where a test parts the walk; take each callee by a contract of your own. -/
theorem walk (a0 : Int) (a1 : Int) (w0 : (Lit.int .i64 a0).wf = true) (w1 : (Lit.int .i64 a1).wf = true) (w : World) :
    Calls Try.prog 9 #[.int .i64 a0, .int .i64 a1] w fun e w' => e = .returned (.bool true) ∧ Grown w w' := by
  obtain ⟨h00, h01⟩ := bounds_i64 w0
  obtain ⟨h10, h11⟩ := bounds_i64 w1
  by_cases c1 : a0 < 0
  · go_enter Try.func9, Try.ntmps9
    go_wp2_with fail
    go_ret
    exact ⟨rfl, Grown.refl _⟩
  by_cases c2 : 1099511627776 < a0
  · go_enter Try.func9, Try.ntmps9
    go_wp2_with fail
    go_ret
    exact ⟨rfl, Grown.refl _⟩
  by_cases c3 : a1 < 1
  · go_enter Try.func9, Try.ntmps9
    go_wp2_with fail
    go_ret
    exact ⟨rfl, Grown.refl _⟩
  by_cases c4 : 1048576 < a1
  · go_enter Try.func9, Try.ntmps9
    go_wp2_with fail
    go_ret
    exact ⟨rfl, Grown.refl _⟩
  have h0 : 0 ≤ a0 := by omega
  have h2 : 1 ≤ a1 := by omega
  by_cases c5 : 65536 < Block.cnt a0 a1
  · exact many a0 a1 _ w h0 (by omega) h2 (by omega) (Block.hide rfl) c5
  by_cases hz : a0 = 0
  · subst hz
    exact tile_zero a1 w h2 (by omega)
  · have hp := Block.cnt_pos h0 h2
    have hl := Block.cnt_least (L := a0) (S := a1) (by omega) h2
    have hm : Block.cnt a0 a1 * a1 = (Block.cnt a0 a1 - 1) * a1 + a1 := by rw [← Block.succ_mul]; simp
    exact tile_pos a0 a1 _ w h0 (by omega) h2 (by omega) (Block.hide rfl) (by omega) hp (Block.cnt_cover h2) (by omega) (Block.mul_nn (by omega) h2) (by omega) (by omega) hl

/-! ### THE ROW's STEP: WRITTEN OUT: LEAVE IT -/
set_option maxRecDepth 100000 in
theorem lifted (os : Os) (started : os.Started) (H : Type) (enc : TypeId × Value → H) :
    ReturnsInHanded {} Try.checked os 9 .any (Rows.fnBlockSpansTileDataSpec.pre6 enc Try.prog Try.f9 Rows.fnBlockSpansTileDataRow.domain false) (Rows.fnBlockSpansTileDataSpec.post enc Try.prog Try.f9 false true false false) := by
  refine returnsInHanded_of_change (C := Try.checked) own started (by kernel_rfl) Try.func9
    (ChangeSpec.witness6 (enc := enc) (C := Try.checked) false ⟨#[], #[.int .i64 0, .int .i64 0], []⟩ 8 (by kernel_rfl) (by kernel_rfl) (by kernel_rfl) (by kernel_rfl)) ?_
  intro W base args ds gs before hval0 hW hcnd _
  have hval : ∀ (j : Nat) t v, Try.f9.params[j]? = some t → args[j]? = some v → Value.okWide Try.prog W .any base t v := hval0
  have hW' := hW
  obtain ⟨p, q, hA0, hV, rfl, hfz, hnd⟩ := hW
  have hA : DataW.TrodAll enc Try.prog W 0 (fun _ => true) true Try.f9.params.toList args.toList ds p := hA0
  rw [Try.params9] at hA hval
  obtain ⟨v0, vs0, d0, ds0, p0, q0, hargs, rfl, rfl, h0, r0⟩ := trodAll_cons hA
  obtain ⟨v1, vs1, d1, ds1, p1, q1, rfl, rfl, rfl, h1, r1⟩ := trodAll_cons r0
  obtain ⟨rfl, rfl, rfl⟩ := trodAll_nil r1
  obtain rfl : args = #[v0, v1] := by cases args; simp_all
  obtain ⟨rfl, rfl⟩ := trodVars_none hV
  obtain ⟨a0, rfl, rfl, rfl, w0⟩ := open_int Try.underlying2 (hval 0 2 v0 rfl rfl) h0
  obtain ⟨a1, rfl, rfl, rfl, w1⟩ := open_int Try.underlying2 (hval 1 2 v1 rfl rfl) h1
  clear hA0 hval0
  simp only [List.append_nil] at hW'
  refine (walk a0 a1 w0 w1 W).mono fun e W' ⟨he, hg⟩ => ?_
  subst he
  exact ⟨_, rfl, post_of_same (pa := []) (pv := []) hW' (fun _ _ _ => (trodAll_cons_mk (shut_bool Try.underlying4 _) trodAll_mk0)) (fun sp _ => (trodAll_cons_mk (shut_int Try.underlying2 w0) (trodAll_cons_mk (shut_int Try.underlying2 w1) trodAll_mk0))) (fun _ _ => rfl) rfl
    (hg.frame _) hg.2.1 (ok_one (by kernel_rfl) rfl (okWide_bool_mk Try.underlying4 _))⟩

theorem closed : joinedFacts Try.prog 9 Try.f9 Rows.fnBlockSpansTileDataSpec Rows.fnBlockSpansTileDataRow = true :=
  Head.and8 (by kernel_rfl) Head.mayEnter_eq (Head.lifted_by Head.liftsFinal_eq rfl) (Head.make_by Head.make_eq rfl) (by kernel_rfl) (by kernel_rfl) (by kernel_rfl) (by kernel_rfl)

theorem over : Rows.fnBlockSpansTileDataRow.holds Try.pinned (OpenSpec.ofChange Rows.fnBlockSpansTileDataSpec) :=
  OpenClaim.holds_of_wide 9 Try.f9 rfl rfl rfl rfl rfl rfl rfl ⟨rfl, rfl, rfl, rfl, rfl⟩ rfl rfl rfl rfl rfl (by kernel_rfl) Try.func9 closed
    (of_decide_eq_true (by kernel_rfl)) (by unfold Func.isWrapper; first | (rw [if_pos (by decide +kernel)]; kernel_rfl) | (rw [if_neg (by decide +kernel)]; exact ⟨rfl, rfl⟩))
    (fun os started H enc _ => lifted os started H enc)

/-- ████ THE STATEMENT ████ -/
theorem proved : Rows.FnBlockSpansTileDataSaid :=
  over
#print axioms proved
end Go.Proofs.Qxb6002358a.fnBlockSpansTileData
