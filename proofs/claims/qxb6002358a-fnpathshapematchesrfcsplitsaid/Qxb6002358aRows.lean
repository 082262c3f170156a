/-
  No cell of these rows narrows 'for every input' (looked for: loops, veiled, ifaces, maps, wideKeys, modest, calm, conditions, laid).
  DERIVED. THE GIVEN ROWS OF THIS SEAT. 10 by the template 'for every input the law returns true; each argument reads behind the call as it read before'; 0 by the template 'total and deterministic' (their statements: Qxb6002358aTotals.lean).
  GIVEN WITH THE SEED: the statements are not yours to turn. If you find one false, say at which input.
  Laid BY PROGRAM, IN A SANDBOX (cutbox-rows.mjs): the forced cells as the released guide's own fill.sh prints them over the translation 1745b319c2896def… (all of the seat's roots in one cut). By AI agents, Wed Nov 11 2026. No macro, syntax, notation, axiom, sorry.
-/
import Derived.Test.Qxb6002358aChecked
import GoSem.Claim
import GoSem.ClaimJoined
import GoSem.ClaimMapViews
import Derived.JoinedTies
import Derived.KernelRfl
namespace Go.Proofs.Qxb6002358a
/- THE CELL 'sum', in the pinned program and in every row, IS THE sha256 OF THE DUMP (.gsa) THAT Qxb6002358aProg.lean LOADS. Nothing in Lean hashes anything: it is a label: what it is worth is what the hold of that sum in a sandbox is worth. -/
noncomputable def Try.pinned : Pinned := { name := "qxb6002358a", sum := "1745b319c2896def9a0a03a65274d6cade456991045d069c7eb34b9ed15aea77", checked := Try.checked }
namespace Rows
def none {H : Type} : Left H := { results := [], args := [] }

/-- 'zzlaws_root_g1.FnCrcMultiplyMatchesPolynomialModel': WHATEVER THE INPUT: true; the input reads as it did. -/
def fnCrcMultiplyMatchesPolynomialModelSpec : ChangeSpec := { name := "fnCrcMultiplyMatchesPolynomialModel", fn := fun _ => fun
  | [d1, d2] => { results := [.lit (.bool true)], args := [d1, d2] }
  | _ => none }
def fnCrcMultiplyMatchesPolynomialModelRow : OpenClaim := { program := "qxb6002358a", sum := "1745b319c2896def9a0a03a65274d6cade456991045d069c7eb34b9ed15aea77", func := "example.com/hashbough/hashbough/zzlaws_root_g1.FnCrcMultiplyMatchesPolynomialModel", spec := "fnCrcMultiplyMatchesPolynomialModel", apart := false }
def FnCrcMultiplyMatchesPolynomialModelSaid : Prop := fnCrcMultiplyMatchesPolynomialModelRow.holds Try.pinned (OpenSpec.ofChange fnCrcMultiplyMatchesPolynomialModelSpec)

/-- ITS FALSE NEIGHBOUR: 'it returns false'. Refute it at one input. -/
def fnCrcMultiplyMatchesPolynomialModelWrong : ChangeSpec := { name := "fnCrcMultiplyMatchesPolynomialModel", fn := fun _ => fun
  | [d1, d2] => { results := [.lit (.bool false)], args := [d1, d2] }
  | _ => none }
def FnCrcMultiplyMatchesPolynomialModelWrongFalsely : Prop := fnCrcMultiplyMatchesPolynomialModelRow.holds Try.pinned (OpenSpec.ofChange fnCrcMultiplyMatchesPolynomialModelWrong)

/-- 'zzlaws_root_g1.FnCrcMultiplyCommutesWithUnit': WHATEVER THE INPUT: true; the input reads as it did. -/
def fnCrcMultiplyCommutesWithUnitSpec : ChangeSpec := { name := "fnCrcMultiplyCommutesWithUnit", fn := fun _ => fun
  | [d1, d2] => { results := [.lit (.bool true)], args := [d1, d2] }
  | _ => none }
def fnCrcMultiplyCommutesWithUnitRow : OpenClaim := { program := "qxb6002358a", sum := "1745b319c2896def9a0a03a65274d6cade456991045d069c7eb34b9ed15aea77", func := "example.com/hashbough/hashbough/zzlaws_root_g1.FnCrcMultiplyCommutesWithUnit", spec := "fnCrcMultiplyCommutesWithUnit", apart := false }
def FnCrcMultiplyCommutesWithUnitSaid : Prop := fnCrcMultiplyCommutesWithUnitRow.holds Try.pinned (OpenSpec.ofChange fnCrcMultiplyCommutesWithUnitSpec)

/-- ITS FALSE NEIGHBOUR: 'it returns false'. Refute it at one input. -/
def fnCrcMultiplyCommutesWithUnitWrong : ChangeSpec := { name := "fnCrcMultiplyCommutesWithUnit", fn := fun _ => fun
  | [d1, d2] => { results := [.lit (.bool false)], args := [d1, d2] }
  | _ => none }
def FnCrcMultiplyCommutesWithUnitWrongFalsely : Prop := fnCrcMultiplyCommutesWithUnitRow.holds Try.pinned (OpenSpec.ofChange fnCrcMultiplyCommutesWithUnitWrong)

/-- 'zzlaws_root_g1.FnCrcMultiplyAssociativeAndDistributive': WHATEVER THE INPUT: true; the input reads as it did. -/
def fnCrcMultiplyAssociativeAndDistributiveSpec : ChangeSpec := { name := "fnCrcMultiplyAssociativeAndDistributive", fn := fun _ => fun
  | [d1, d2, d3] => { results := [.lit (.bool true)], args := [d1, d2, d3] }
  | _ => none }
def fnCrcMultiplyAssociativeAndDistributiveRow : OpenClaim := { program := "qxb6002358a", sum := "1745b319c2896def9a0a03a65274d6cade456991045d069c7eb34b9ed15aea77", func := "example.com/hashbough/hashbough/zzlaws_root_g1.FnCrcMultiplyAssociativeAndDistributive", spec := "fnCrcMultiplyAssociativeAndDistributive", apart := false }
def FnCrcMultiplyAssociativeAndDistributiveSaid : Prop := fnCrcMultiplyAssociativeAndDistributiveRow.holds Try.pinned (OpenSpec.ofChange fnCrcMultiplyAssociativeAndDistributiveSpec)

/-- ITS FALSE NEIGHBOUR: 'it returns false'. Refute it at one input. -/
def fnCrcMultiplyAssociativeAndDistributiveWrong : ChangeSpec := { name := "fnCrcMultiplyAssociativeAndDistributive", fn := fun _ => fun
  | [d1, d2, d3] => { results := [.lit (.bool false)], args := [d1, d2, d3] }
  | _ => none }
def FnCrcMultiplyAssociativeAndDistributiveWrongFalsely : Prop := fnCrcMultiplyAssociativeAndDistributiveRow.holds Try.pinned (OpenSpec.ofChange fnCrcMultiplyAssociativeAndDistributiveWrong)

/-- 'zzlaws_root_g1.FnCrcShiftIsZeroBytesFed': WHATEVER THE INPUT: true; the input reads as it did. -/
def fnCrcShiftIsZeroBytesFedSpec : ChangeSpec := { name := "fnCrcShiftIsZeroBytesFed", fn := fun _ => fun
  | [d1, d2] => { results := [.lit (.bool true)], args := [d1, d2] }
  | _ => none }
def fnCrcShiftIsZeroBytesFedRow : OpenClaim := { program := "qxb6002358a", sum := "1745b319c2896def9a0a03a65274d6cade456991045d069c7eb34b9ed15aea77", func := "example.com/hashbough/hashbough/zzlaws_root_g1.FnCrcShiftIsZeroBytesFed", spec := "fnCrcShiftIsZeroBytesFed", apart := false }
def FnCrcShiftIsZeroBytesFedSaid : Prop := fnCrcShiftIsZeroBytesFedRow.holds Try.pinned (OpenSpec.ofChange fnCrcShiftIsZeroBytesFedSpec)

/-- ITS FALSE NEIGHBOUR: 'it returns false'. Refute it at one input. -/
def fnCrcShiftIsZeroBytesFedWrong : ChangeSpec := { name := "fnCrcShiftIsZeroBytesFed", fn := fun _ => fun
  | [d1, d2] => { results := [.lit (.bool false)], args := [d1, d2] }
  | _ => none }
def FnCrcShiftIsZeroBytesFedWrongFalsely : Prop := fnCrcShiftIsZeroBytesFedRow.holds Try.pinned (OpenSpec.ofChange fnCrcShiftIsZeroBytesFedWrong)

/-- 'zzlaws_root_g1.FnCrcShiftAdditive': WHATEVER THE INPUT: true; the input reads as it did. -/
def fnCrcShiftAdditiveSpec : ChangeSpec := { name := "fnCrcShiftAdditive", fn := fun _ => fun
  | [d1, d2, d3] => { results := [.lit (.bool true)], args := [d1, d2, d3] }
  | _ => none }
def fnCrcShiftAdditiveRow : OpenClaim := { program := "qxb6002358a", sum := "1745b319c2896def9a0a03a65274d6cade456991045d069c7eb34b9ed15aea77", func := "example.com/hashbough/hashbough/zzlaws_root_g1.FnCrcShiftAdditive", spec := "fnCrcShiftAdditive", apart := false }
def FnCrcShiftAdditiveSaid : Prop := fnCrcShiftAdditiveRow.holds Try.pinned (OpenSpec.ofChange fnCrcShiftAdditiveSpec)

/-- ITS FALSE NEIGHBOUR: 'it returns false'. Refute it at one input. -/
def fnCrcShiftAdditiveWrong : ChangeSpec := { name := "fnCrcShiftAdditive", fn := fun _ => fun
  | [d1, d2, d3] => { results := [.lit (.bool false)], args := [d1, d2, d3] }
  | _ => none }
def FnCrcShiftAdditiveWrongFalsely : Prop := fnCrcShiftAdditiveRow.holds Try.pinned (OpenSpec.ofChange fnCrcShiftAdditiveWrong)

/-- 'zzlaws_root_g1.FnCrcShiftInjective': WHATEVER THE INPUT: true; the input reads as it did. -/
def fnCrcShiftInjectiveSpec : ChangeSpec := { name := "fnCrcShiftInjective", fn := fun _ => fun
  | [d1, d2, d3] => { results := [.lit (.bool true)], args := [d1, d2, d3] }
  | _ => none }
def fnCrcShiftInjectiveRow : OpenClaim := { program := "qxb6002358a", sum := "1745b319c2896def9a0a03a65274d6cade456991045d069c7eb34b9ed15aea77", func := "example.com/hashbough/hashbough/zzlaws_root_g1.FnCrcShiftInjective", spec := "fnCrcShiftInjective", apart := false }
def FnCrcShiftInjectiveSaid : Prop := fnCrcShiftInjectiveRow.holds Try.pinned (OpenSpec.ofChange fnCrcShiftInjectiveSpec)

/-- ITS FALSE NEIGHBOUR: 'it returns false'. Refute it at one input. -/
def fnCrcShiftInjectiveWrong : ChangeSpec := { name := "fnCrcShiftInjective", fn := fun _ => fun
  | [d1, d2, d3] => { results := [.lit (.bool false)], args := [d1, d2, d3] }
  | _ => none }
def FnCrcShiftInjectiveWrongFalsely : Prop := fnCrcShiftInjectiveRow.holds Try.pinned (OpenSpec.ofChange fnCrcShiftInjectiveWrong)

/-- 'zzlaws_root_g2.FnBlockSpansTileData': WHATEVER THE INPUT: true; the input reads as it did. -/
def fnBlockSpansTileDataSpec : ChangeSpec := { name := "fnBlockSpansTileData", fn := fun _ => fun
  | [d1, d2] => { results := [.lit (.bool true)], args := [d1, d2] }
  | _ => none }
def fnBlockSpansTileDataRow : OpenClaim := { program := "qxb6002358a", sum := "1745b319c2896def9a0a03a65274d6cade456991045d069c7eb34b9ed15aea77", func := "example.com/hashbough/hashbough/zzlaws_root_g2.FnBlockSpansTileData", spec := "fnBlockSpansTileData", apart := false }
def FnBlockSpansTileDataSaid : Prop := fnBlockSpansTileDataRow.holds Try.pinned (OpenSpec.ofChange fnBlockSpansTileDataSpec)

/-- ITS FALSE NEIGHBOUR: 'it returns false'. Refute it at one input. -/
def fnBlockSpansTileDataWrong : ChangeSpec := { name := "fnBlockSpansTileData", fn := fun _ => fun
  | [d1, d2] => { results := [.lit (.bool false)], args := [d1, d2] }
  | _ => none }
def FnBlockSpansTileDataWrongFalsely : Prop := fnBlockSpansTileDataRow.holds Try.pinned (OpenSpec.ofChange fnBlockSpansTileDataWrong)

/-- 'zzlaws_root_g2.FnBlockSpanSplitsAtABlock': WHATEVER THE INPUT: true; the input reads as it did. -/
def fnBlockSpanSplitsAtABlockSpec : ChangeSpec := { name := "fnBlockSpanSplitsAtABlock", fn := fun _ => fun
  | [d1, d2, d3, d4, d5] => { results := [.lit (.bool true)], args := [d1, d2, d3, d4, d5] }
  | _ => none }
def fnBlockSpanSplitsAtABlockRow : OpenClaim := { program := "qxb6002358a", sum := "1745b319c2896def9a0a03a65274d6cade456991045d069c7eb34b9ed15aea77", func := "example.com/hashbough/hashbough/zzlaws_root_g2.FnBlockSpanSplitsAtABlock", spec := "fnBlockSpanSplitsAtABlock", apart := false }
def FnBlockSpanSplitsAtABlockSaid : Prop := fnBlockSpanSplitsAtABlockRow.holds Try.pinned (OpenSpec.ofChange fnBlockSpanSplitsAtABlockSpec)

/-- ITS FALSE NEIGHBOUR: 'it returns false'. Refute it at one input. -/
def fnBlockSpanSplitsAtABlockWrong : ChangeSpec := { name := "fnBlockSpanSplitsAtABlock", fn := fun _ => fun
  | [d1, d2, d3, d4, d5] => { results := [.lit (.bool false)], args := [d1, d2, d3, d4, d5] }
  | _ => none }
def FnBlockSpanSplitsAtABlockWrongFalsely : Prop := fnBlockSpanSplitsAtABlockRow.holds Try.pinned (OpenSpec.ofChange fnBlockSpanSplitsAtABlockWrong)

/-- 'zzlaws_root_g2.FnPathShapeMatchesRFCSplit': WHATEVER THE INPUT: true; the input reads as it did. -/
def fnPathShapeMatchesRFCSplitSpec : ChangeSpec := { name := "fnPathShapeMatchesRFCSplit", fn := fun _ => fun
  | [d1, d2] => { results := [.lit (.bool true)], args := [d1, d2] }
  | _ => none }
def fnPathShapeMatchesRFCSplitRow : OpenClaim := { program := "qxb6002358a", sum := "1745b319c2896def9a0a03a65274d6cade456991045d069c7eb34b9ed15aea77", func := "example.com/hashbough/hashbough/zzlaws_root_g2.FnPathShapeMatchesRFCSplit", spec := "fnPathShapeMatchesRFCSplit", apart := false }
def FnPathShapeMatchesRFCSplitSaid : Prop := fnPathShapeMatchesRFCSplitRow.holds Try.pinned (OpenSpec.ofChange fnPathShapeMatchesRFCSplitSpec)

/-- ITS FALSE NEIGHBOUR: 'it returns false'. Refute it at one input. -/
def fnPathShapeMatchesRFCSplitWrong : ChangeSpec := { name := "fnPathShapeMatchesRFCSplit", fn := fun _ => fun
  | [d1, d2] => { results := [.lit (.bool false)], args := [d1, d2] }
  | _ => none }
def FnPathShapeMatchesRFCSplitWrongFalsely : Prop := fnPathShapeMatchesRFCSplitRow.holds Try.pinned (OpenSpec.ofChange fnPathShapeMatchesRFCSplitWrong)

/-- 'zzlaws_root_g2.FnLogLengthsMatchPostOrderLayout': WHATEVER THE INPUT: true; the input reads as it did. -/
def fnLogLengthsMatchPostOrderLayoutSpec : ChangeSpec := { name := "fnLogLengthsMatchPostOrderLayout", fn := fun _ => fun
  | [d1, d2, d3] => { results := [.lit (.bool true)], args := [d1, d2, d3] }
  | _ => none }
def fnLogLengthsMatchPostOrderLayoutRow : OpenClaim := { program := "qxb6002358a", sum := "1745b319c2896def9a0a03a65274d6cade456991045d069c7eb34b9ed15aea77", func := "example.com/hashbough/hashbough/zzlaws_root_g2.FnLogLengthsMatchPostOrderLayout", spec := "fnLogLengthsMatchPostOrderLayout", apart := false }
def FnLogLengthsMatchPostOrderLayoutSaid : Prop := fnLogLengthsMatchPostOrderLayoutRow.holds Try.pinned (OpenSpec.ofChange fnLogLengthsMatchPostOrderLayoutSpec)

/-- ITS FALSE NEIGHBOUR: 'it returns false'. Refute it at one input. -/
def fnLogLengthsMatchPostOrderLayoutWrong : ChangeSpec := { name := "fnLogLengthsMatchPostOrderLayout", fn := fun _ => fun
  | [d1, d2, d3] => { results := [.lit (.bool false)], args := [d1, d2, d3] }
  | _ => none }
def FnLogLengthsMatchPostOrderLayoutWrongFalsely : Prop := fnLogLengthsMatchPostOrderLayoutRow.holds Try.pinned (OpenSpec.ofChange fnLogLengthsMatchPostOrderLayoutWrong)

end Rows
end Go.Proofs.Qxb6002358a
