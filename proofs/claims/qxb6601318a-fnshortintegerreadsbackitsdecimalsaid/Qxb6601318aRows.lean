/-
  No cell of these rows narrows 'for every input' (looked for: loops, veiled, ifaces, maps, wideKeys, modest, calm, conditions, laid).
  DERIVED. THE GIVEN ROWS OF THIS SEAT. 3 by the template 'for every input the law returns true; each argument reads behind the call as it read before'; 0 by the template 'total and deterministic' (their statements: Qxb6601318aTotals.lean).
  GIVEN WITH THE SEED: the statements are not yours to turn. If you find one false, say at which input.
  Laid BY PROGRAM, IN A SANDBOX (cutbox-rows.mjs): the forced cells as the released guide's own fill.sh prints them over the translation 2bdb184778402d44… (all of the seat's roots in one cut). By AI agents, Wed Nov 11 2026. No macro, syntax, notation, axiom, sorry.
-/
import Derived.Test.Qxb6601318aChecked
import GoSem.Claim
import GoSem.ClaimJoined
import GoSem.ClaimMapViews
import Derived.JoinedTies
import Derived.KernelRfl
namespace Go.Proofs.Qxb6601318a
/- THE CELL 'sum', in the pinned program and in every row, IS THE sha256 OF THE DUMP (.gsa) THAT Qxb6601318aProg.lean LOADS. Nothing in Lean hashes anything: it is a label: what it is worth is what the hold of that sum in a sandbox is worth. -/
noncomputable def Try.pinned : Pinned := { name := "qxb6601318a", sum := "2bdb184778402d440ef431484edd4fbc69567a38d85e712f8ad0a961d14ce8bf", checked := Try.checked }
namespace Rows
def none {H : Type} : Left H := { results := [], args := [] }

/-- 'zzlaws_internal_pdf_b1.FnUnlzwLimitGivesAPrefix': WHATEVER THE INPUT: true; the input reads as it did. -/
def fnUnlzwLimitGivesAPrefixSpec : ChangeSpec := { name := "fnUnlzwLimitGivesAPrefix", fn := fun _ => fun
  | [d1, d2, d3, d4] => { results := [.lit (.bool true)], args := [d1, d2, d3, d4] }
  | _ => none }
def fnUnlzwLimitGivesAPrefixRow : OpenClaim := { program := "qxb6601318a", sum := "2bdb184778402d440ef431484edd4fbc69567a38d85e712f8ad0a961d14ce8bf", func := "example.com/ghostink/ghostink/zzlaws_internal_pdf_b1.FnUnlzwLimitGivesAPrefix", spec := "fnUnlzwLimitGivesAPrefix", apart := false }
def FnUnlzwLimitGivesAPrefixSaid : Prop := fnUnlzwLimitGivesAPrefixRow.holds Try.pinned (OpenSpec.ofChange fnUnlzwLimitGivesAPrefixSpec)

/-- ITS FALSE NEIGHBOUR: 'it returns false'. Refute it at one input. -/
def fnUnlzwLimitGivesAPrefixWrong : ChangeSpec := { name := "fnUnlzwLimitGivesAPrefix", fn := fun _ => fun
  | [d1, d2, d3, d4] => { results := [.lit (.bool false)], args := [d1, d2, d3, d4] }
  | _ => none }
def FnUnlzwLimitGivesAPrefixWrongFalsely : Prop := fnUnlzwLimitGivesAPrefixRow.holds Try.pinned (OpenSpec.ofChange fnUnlzwLimitGivesAPrefixWrong)

/-- 'zzlaws_internal_pdf_b1.FnUnlzwUndoesAnLZWEncoder': WHATEVER THE INPUT: true; the input reads as it did. -/
def fnUnlzwUndoesAnLZWEncoderSpec : ChangeSpec := { name := "fnUnlzwUndoesAnLZWEncoder", fn := fun _ => fun
  | [d1, d2, d3] => { results := [.lit (.bool true)], args := [d1, d2, d3] }
  | _ => none }
def fnUnlzwUndoesAnLZWEncoderRow : OpenClaim := { program := "qxb6601318a", sum := "2bdb184778402d440ef431484edd4fbc69567a38d85e712f8ad0a961d14ce8bf", func := "example.com/ghostink/ghostink/zzlaws_internal_pdf_b1.FnUnlzwUndoesAnLZWEncoder", spec := "fnUnlzwUndoesAnLZWEncoder", apart := false }
def FnUnlzwUndoesAnLZWEncoderSaid : Prop := fnUnlzwUndoesAnLZWEncoderRow.holds Try.pinned (OpenSpec.ofChange fnUnlzwUndoesAnLZWEncoderSpec)

/-- ITS FALSE NEIGHBOUR: 'it returns false'. Refute it at one input. -/
def fnUnlzwUndoesAnLZWEncoderWrong : ChangeSpec := { name := "fnUnlzwUndoesAnLZWEncoder", fn := fun _ => fun
  | [d1, d2, d3] => { results := [.lit (.bool false)], args := [d1, d2, d3] }
  | _ => none }
def FnUnlzwUndoesAnLZWEncoderWrongFalsely : Prop := fnUnlzwUndoesAnLZWEncoderRow.holds Try.pinned (OpenSpec.ofChange fnUnlzwUndoesAnLZWEncoderWrong)

/-- 'zzlaws_internal_pdf_b1.FnShortIntegerReadsBackItsDecimal': WHATEVER THE INPUT: true; the input reads as it did. -/
def fnShortIntegerReadsBackItsDecimalSpec : ChangeSpec := { name := "fnShortIntegerReadsBackItsDecimal", fn := fun _ => fun
  | [d1, d2, d3] => { results := [.lit (.bool true)], args := [d1, d2, d3] }
  | _ => none }
def fnShortIntegerReadsBackItsDecimalRow : OpenClaim := { program := "qxb6601318a", sum := "2bdb184778402d440ef431484edd4fbc69567a38d85e712f8ad0a961d14ce8bf", func := "example.com/ghostink/ghostink/zzlaws_internal_pdf_b1.FnShortIntegerReadsBackItsDecimal", spec := "fnShortIntegerReadsBackItsDecimal", apart := false }
def FnShortIntegerReadsBackItsDecimalSaid : Prop := fnShortIntegerReadsBackItsDecimalRow.holds Try.pinned (OpenSpec.ofChange fnShortIntegerReadsBackItsDecimalSpec)

/-- ITS FALSE NEIGHBOUR: 'it returns false'. Refute it at one input. -/
def fnShortIntegerReadsBackItsDecimalWrong : ChangeSpec := { name := "fnShortIntegerReadsBackItsDecimal", fn := fun _ => fun
  | [d1, d2, d3] => { results := [.lit (.bool false)], args := [d1, d2, d3] }
  | _ => none }
def FnShortIntegerReadsBackItsDecimalWrongFalsely : Prop := fnShortIntegerReadsBackItsDecimalRow.holds Try.pinned (OpenSpec.ofChange fnShortIntegerReadsBackItsDecimalWrong)

end Rows
end Go.Proofs.Qxb6601318a
