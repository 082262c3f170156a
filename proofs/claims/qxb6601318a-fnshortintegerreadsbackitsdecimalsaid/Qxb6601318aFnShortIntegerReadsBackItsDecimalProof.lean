/-
  shortInteger reads back the decimal text of a number: the statement's proof (the frame: the guide's shell, with 'Below' for 'Grown': the call writes into memory of its own).
-/
import Derived.Test.Qxb6601318aRows
import Derived.Test.Qxb6601318aHead
import Derived.Test.Qxb6601318aDecWalks
import Derived.WalkKit
import Derived.ProofKit
import Derived.OpenShut
import Derived.ShutString
namespace Go.Proofs.Qxb6601318a.fnShortIntegerReadsBackItsDecimal
open Go.ChangeShapes Go.WideShapes Go.ChangeAt Go.RowKit
open Go.ChangeMaps (open_string shut_string)
set_option linter.unusedVariables false      -- a walk need not use every 'w<i>' (that an integer argument fits its kind)

theorem own : ownKnob Try.prog.godebug = none := by kernel_rfl

/-! ### STEP 1: THE WALK: the Go text returns true. 'Below': below the block number of the start the world is as it was (Derived/Below.lean). Part the cases AHEAD of 'go_enter' where a test parts the walk; take each callee by a contract of your own. -/
theorem walk (a0 : Int) (a1 : Bool) (a2 : Int) (w0 : (Lit.int .i64 a0).wf = true) (w2 : (Lit.int .i64 a2).wf = true) (w : World) :
    Calls Try.prog 5 #[.int .i64 a0, .bool a1, .int .i64 a2] w fun e w' => e = .returned (.bool true) ∧ Below w.heap.size w w' := by
  obtain ⟨h00, h01⟩ := bounds_i64 w0
  obtain ⟨h20, h21⟩ := bounds_i64 w2
  by_cases c1 : a0 ≤ -1000000000000000000
  · go_enter Try.func5, Try.ntmps5
    go_wp2_with fail
    go_ret
    exact ⟨rfl, Below.refl _ _⟩
  by_cases c2 : 1000000000000000000 ≤ a0
  · go_enter Try.func5, Try.ntmps5
    go_wp2_with fail
    go_ret
    exact ⟨rfl, Below.refl _ _⟩
  by_cases c3 : a2 < 0
  · go_enter Try.func5, Try.ntmps5
    go_wp2_with fail
    go_ret
    exact ⟨rfl, Below.refl _ _⟩
  by_cases c4 : 64 < a2
  · go_enter Try.func5, Try.ntmps5
    go_wp2_with fail
    go_ret
    exact ⟨rfl, Below.refl _ _⟩
  have ez : ((a2.toNat : Nat) : Int) = a2 := by omega
  by_cases c5 : a0 < 0
  · have h := dec_minus (-a0).toNat a2.toNat a1 w (by omega) (by omega) (by omega)
    rwa [ez, show -(((-a0).toNat : Nat) : Int) = a0 by omega] at h
  have en : ((a0.toNat : Nat) : Int) = a0 := by omega
  by_cases c6 : a0 = 0
  · cases a1
    · have h := dec_none_zero a0.toNat a2.toNat w (by omega) (by omega) (by omega)
      rwa [ez, en] at h
    · have h := dec_plus_zero a0.toNat a2.toNat w (by omega) (by omega) (by omega)
      rwa [ez, en] at h
  · cases a1
    · have h := dec_none a0.toNat a2.toNat w (by omega) (by omega) (by omega)
      rwa [ez, en] at h
    · have h := dec_plus a0.toNat a2.toNat w (by omega) (by omega) (by omega)
      rwa [ez, en] at h

/-! ### THE ROW's STEP: WRITTEN OUT: LEAVE IT -/
set_option maxRecDepth 100000 in
theorem lifted (os : Os) (started : os.Started) (H : Type) (enc : TypeId × Value → H) :
    ReturnsInHanded {} Try.checked os 5 .any (Rows.fnShortIntegerReadsBackItsDecimalSpec.pre6 enc Try.prog Try.f5 Rows.fnShortIntegerReadsBackItsDecimalRow.domain false) (Rows.fnShortIntegerReadsBackItsDecimalSpec.post enc Try.prog Try.f5 false true false false) := by
  refine returnsInHanded_of_change (C := Try.checked) own started (by kernel_rfl) Try.func5
    (ChangeSpec.witness6 (enc := enc) (C := Try.checked) false ⟨#[], #[.int .i64 0, .bool false, .int .i64 0], []⟩ 8 (by kernel_rfl) (by kernel_rfl) (by kernel_rfl) (by kernel_rfl)) ?_
  intro W base args ds gs before hval0 hW hcnd _
  have hval : ∀ (j : Nat) t v, Try.f5.params[j]? = some t → args[j]? = some v → Value.okWide Try.prog W .any base t v := hval0
  have hW' := hW
  obtain ⟨p, q, hA0, hV, rfl, hfz, hnd⟩ := hW
  have hA : DataW.TrodAll enc Try.prog W 0 (fun _ => true) true Try.f5.params.toList args.toList ds p := hA0
  rw [Try.params5] at hA hval
  obtain ⟨v0, vs0, d0, ds0, p0, q0, hargs, rfl, rfl, h0, r0⟩ := trodAll_cons hA
  obtain ⟨v1, vs1, d1, ds1, p1, q1, rfl, rfl, rfl, h1, r1⟩ := trodAll_cons r0
  obtain ⟨v2, vs2, d2, ds2, p2, q2, rfl, rfl, rfl, h2, r2⟩ := trodAll_cons r1
  obtain ⟨rfl, rfl, rfl⟩ := trodAll_nil r2
  obtain rfl : args = #[v0, v1, v2] := by cases args; simp_all
  obtain ⟨rfl, rfl⟩ := trodVars_none hV
  obtain ⟨a0, rfl, rfl, rfl, w0⟩ := open_int Try.underlying2 (hval 0 2 v0 rfl rfl) h0
  obtain ⟨a1, rfl, rfl, rfl⟩ := open_bool Try.underlying4 (hval 1 4 v1 rfl rfl) h1
  obtain ⟨a2, rfl, rfl, rfl, w2⟩ := open_int Try.underlying3 (hval 2 3 v2 rfl rfl) h2
  clear hA0 hval0
  simp only [List.append_nil] at hW'
  refine (walk a0 a1 a2 w0 w2 W).mono fun e W' ⟨he, hg⟩ => ?_
  subst he
  exact ⟨_, rfl, _, _, _, [], [], [], hW', trodAll_mk1 (shut_bool Try.underlying4 _), (trodAll_cons_mk (shut_int Try.underlying2 w0) (trodAll_cons_mk (shut_bool Try.underlying4 _) (trodAll_cons_mk (shut_int Try.underlying3 w2) trodAll_mk0))), rfl, hg.frame _, fun h => by cases h⟩

theorem closed : joinedFacts Try.prog 5 Try.f5 Rows.fnShortIntegerReadsBackItsDecimalSpec Rows.fnShortIntegerReadsBackItsDecimalRow = true :=
  Head.and8 (by kernel_rfl) Head.mayEnter_eq (Head.lifted_by Head.liftsFinal_eq rfl) (Head.make_by Head.make_eq rfl) (by kernel_rfl) (by kernel_rfl) (by kernel_rfl) (by kernel_rfl)

theorem over : Rows.fnShortIntegerReadsBackItsDecimalRow.holds Try.pinned (OpenSpec.ofChange Rows.fnShortIntegerReadsBackItsDecimalSpec) :=
  OpenClaim.holds_of_wide 5 Try.f5 rfl rfl rfl rfl rfl rfl rfl ⟨rfl, rfl, rfl, rfl, rfl⟩ rfl rfl rfl rfl rfl (by kernel_rfl) Try.func5 closed
    (of_decide_eq_true (by kernel_rfl)) (by unfold Func.isWrapper; first | (rw [if_pos (by decide +kernel)]; kernel_rfl) | (rw [if_neg (by decide +kernel)]; exact ⟨rfl, rfl⟩))
    (fun os started H enc _ => lifted os started H enc)

/-- ████ THE STATEMENT ████ -/
theorem proved : Rows.FnShortIntegerReadsBackItsDecimalSaid :=
  over
#print axioms proved
end Go.Proofs.Qxb6601318a.fnShortIntegerReadsBackItsDecimal
