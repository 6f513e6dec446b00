/-
  No cell of these rows narrows 'for every input' (looked for: loops, veiled, ifaces, maps, wideKeys, modest, calm, conditions, laid).
  DERIVED. THE GIVEN ROWS OF THIS SEAT. 8 by the template 'for every input the law returns true; each argument reads behind the call as it read before'; 0 by the template 'total and deterministic' (their statements: Qxb6600053aTotals.lean).
  GIVEN WITH THE SEED: the statements are not yours to turn. If you find one false, say at which input.
  Laid BY PROGRAM, IN A SANDBOX (cutbox-rows.mjs): the forced cells as the released guide's own fill.sh prints them over the translation aa224f7c29acbb7b… (all of the seat's roots in one cut). By AI agents, Wed Nov 11 2026. No macro, syntax, notation, axiom, sorry.
-/
import Derived.Test.Qxb6600053aChecked
import GoSem.Claim
import GoSem.ClaimJoined
import GoSem.ClaimMapViews
import Derived.JoinedTies
import Derived.KernelRfl
namespace Go.Proofs.Qxb6600053a
/- THE CELL 'sum', in the pinned program and in every row, IS THE sha256 OF THE DUMP (.gsa) THAT Qxb6600053aProg.lean LOADS. Nothing in Lean hashes anything: it is a label: what it is worth is what the hold of that sum in a sandbox is worth. -/
noncomputable def Try.pinned : Pinned := { name := "qxb6600053a", sum := "aa224f7c29acbb7b28740f45a1b7a29d8c2f6870ea36cd929accac005073f383", checked := Try.checked }
namespace Rows
def none {H : Type} : Left H := { results := [], args := [] }

/-- 'zzlaws_internal_overlay_b1.FnUnionCommutes': WHATEVER THE INPUT: true; the input reads as it did. -/
def fnUnionCommutesSpec : ChangeSpec := { name := "fnUnionCommutes", fn := fun _ => fun
  | [d1, d2, d3, d4] => { results := [.lit (.bool true)], args := [d1, d2, d3, d4] }
  | _ => none }
def fnUnionCommutesRow : OpenClaim := { program := "qxb6600053a", sum := "aa224f7c29acbb7b28740f45a1b7a29d8c2f6870ea36cd929accac005073f383", func := "example.com/tessera/tessera/zzlaws_internal_overlay_b1.FnUnionCommutes", spec := "fnUnionCommutes", apart := false }
def FnUnionCommutesSaid : Prop := fnUnionCommutesRow.holds Try.pinned (OpenSpec.ofChange fnUnionCommutesSpec)

/-- ITS FALSE NEIGHBOUR: 'it returns false'. Refute it at one input. -/
def fnUnionCommutesWrong : ChangeSpec := { name := "fnUnionCommutes", fn := fun _ => fun
  | [d1, d2, d3, d4] => { results := [.lit (.bool false)], args := [d1, d2, d3, d4] }
  | _ => none }
def FnUnionCommutesWrongFalsely : Prop := fnUnionCommutesRow.holds Try.pinned (OpenSpec.ofChange fnUnionCommutesWrong)

/-- 'zzlaws_internal_overlay_b1.FnUnionRejoinsSplit': WHATEVER THE INPUT: true; the input reads as it did. -/
def fnUnionRejoinsSplitSpec : ChangeSpec := { name := "fnUnionRejoinsSplit", fn := fun _ => fun
  | [d1, d2, d3, d4] => { results := [.lit (.bool true)], args := [d1, d2, d3, d4] }
  | _ => none }
def fnUnionRejoinsSplitRow : OpenClaim := { program := "qxb6600053a", sum := "aa224f7c29acbb7b28740f45a1b7a29d8c2f6870ea36cd929accac005073f383", func := "example.com/tessera/tessera/zzlaws_internal_overlay_b1.FnUnionRejoinsSplit", spec := "fnUnionRejoinsSplit", apart := false }
def FnUnionRejoinsSplitSaid : Prop := fnUnionRejoinsSplitRow.holds Try.pinned (OpenSpec.ofChange fnUnionRejoinsSplitSpec)

/-- ITS FALSE NEIGHBOUR: 'it returns false'. Refute it at one input. -/
def fnUnionRejoinsSplitWrong : ChangeSpec := { name := "fnUnionRejoinsSplit", fn := fun _ => fun
  | [d1, d2, d3, d4] => { results := [.lit (.bool false)], args := [d1, d2, d3, d4] }
  | _ => none }
def FnUnionRejoinsSplitWrongFalsely : Prop := fnUnionRejoinsSplitRow.holds Try.pinned (OpenSpec.ofChange fnUnionRejoinsSplitWrong)

/-- 'zzlaws_internal_overlay_b1.FnUnionIsDisjointCover': WHATEVER THE INPUT: true; the input reads as it did. -/
def fnUnionIsDisjointCoverSpec : ChangeSpec := { name := "fnUnionIsDisjointCover", fn := fun _ => fun
  | [d1, d2, d3, d4, d5] => { results := [.lit (.bool true)], args := [d1, d2, d3, d4, d5] }
  | _ => none }
def fnUnionIsDisjointCoverRow : OpenClaim := { program := "qxb6600053a", sum := "aa224f7c29acbb7b28740f45a1b7a29d8c2f6870ea36cd929accac005073f383", func := "example.com/tessera/tessera/zzlaws_internal_overlay_b1.FnUnionIsDisjointCover", spec := "fnUnionIsDisjointCover", apart := false }
def FnUnionIsDisjointCoverSaid : Prop := fnUnionIsDisjointCoverRow.holds Try.pinned (OpenSpec.ofChange fnUnionIsDisjointCoverSpec)

/-- ITS FALSE NEIGHBOUR: 'it returns false'. Refute it at one input. -/
def fnUnionIsDisjointCoverWrong : ChangeSpec := { name := "fnUnionIsDisjointCover", fn := fun _ => fun
  | [d1, d2, d3, d4, d5] => { results := [.lit (.bool false)], args := [d1, d2, d3, d4, d5] }
  | _ => none }
def FnUnionIsDisjointCoverWrongFalsely : Prop := fnUnionIsDisjointCoverRow.holds Try.pinned (OpenSpec.ofChange fnUnionIsDisjointCoverWrong)

/-- 'zzlaws_internal_overlay_b1.FnCutLeavesZoneMinusSlab': WHATEVER THE INPUT: true; the input reads as it did. -/
def fnCutLeavesZoneMinusSlabSpec : ChangeSpec := { name := "fnCutLeavesZoneMinusSlab", fn := fun _ => fun
  | [d1, d2, d3, d4, d5, d6] => { results := [.lit (.bool true)], args := [d1, d2, d3, d4, d5, d6] }
  | _ => none }
def fnCutLeavesZoneMinusSlabRow : OpenClaim := { program := "qxb6600053a", sum := "aa224f7c29acbb7b28740f45a1b7a29d8c2f6870ea36cd929accac005073f383", func := "example.com/tessera/tessera/zzlaws_internal_overlay_b1.FnCutLeavesZoneMinusSlab", spec := "fnCutLeavesZoneMinusSlab", apart := false }
def FnCutLeavesZoneMinusSlabSaid : Prop := fnCutLeavesZoneMinusSlabRow.holds Try.pinned (OpenSpec.ofChange fnCutLeavesZoneMinusSlabSpec)

/-- ITS FALSE NEIGHBOUR: 'it returns false'. Refute it at one input. -/
def fnCutLeavesZoneMinusSlabWrong : ChangeSpec := { name := "fnCutLeavesZoneMinusSlab", fn := fun _ => fun
  | [d1, d2, d3, d4, d5, d6] => { results := [.lit (.bool false)], args := [d1, d2, d3, d4, d5, d6] }
  | _ => none }
def FnCutLeavesZoneMinusSlabWrongFalsely : Prop := fnCutLeavesZoneMinusSlabRow.holds Try.pinned (OpenSpec.ofChange fnCutLeavesZoneMinusSlabWrong)

/-- 'zzlaws_internal_overlay_b1.FnCutPiecesWellFormedAndBounded': WHATEVER THE INPUT: true; the input reads as it did. -/
def fnCutPiecesWellFormedAndBoundedSpec : ChangeSpec := { name := "fnCutPiecesWellFormedAndBounded", fn := fun _ => fun
  | [d1, d2, d3, d4, d5] => { results := [.lit (.bool true)], args := [d1, d2, d3, d4, d5] }
  | _ => none }
def fnCutPiecesWellFormedAndBoundedRow : OpenClaim := { program := "qxb6600053a", sum := "aa224f7c29acbb7b28740f45a1b7a29d8c2f6870ea36cd929accac005073f383", func := "example.com/tessera/tessera/zzlaws_internal_overlay_b1.FnCutPiecesWellFormedAndBounded", spec := "fnCutPiecesWellFormedAndBounded", apart := false }
def FnCutPiecesWellFormedAndBoundedSaid : Prop := fnCutPiecesWellFormedAndBoundedRow.holds Try.pinned (OpenSpec.ofChange fnCutPiecesWellFormedAndBoundedSpec)

/-- ITS FALSE NEIGHBOUR: 'it returns false'. Refute it at one input. -/
def fnCutPiecesWellFormedAndBoundedWrong : ChangeSpec := { name := "fnCutPiecesWellFormedAndBounded", fn := fun _ => fun
  | [d1, d2, d3, d4, d5] => { results := [.lit (.bool false)], args := [d1, d2, d3, d4, d5] }
  | _ => none }
def FnCutPiecesWellFormedAndBoundedWrongFalsely : Prop := fnCutPiecesWellFormedAndBoundedRow.holds Try.pinned (OpenSpec.ofChange fnCutPiecesWellFormedAndBoundedWrong)

/-- 'zzlaws_internal_overlay_b1.FnCutKeepsLeftAndAppends': WHATEVER THE INPUT: true; the input reads as it did. -/
def fnCutKeepsLeftAndAppendsSpec : ChangeSpec := { name := "fnCutKeepsLeftAndAppends", fn := fun _ => fun
  | [d1, d2, d3, d4, d5, d6, d7] => { results := [.lit (.bool true)], args := [d1, d2, d3, d4, d5, d6, d7] }
  | _ => none }
def fnCutKeepsLeftAndAppendsRow : OpenClaim := { program := "qxb6600053a", sum := "aa224f7c29acbb7b28740f45a1b7a29d8c2f6870ea36cd929accac005073f383", func := "example.com/tessera/tessera/zzlaws_internal_overlay_b1.FnCutKeepsLeftAndAppends", spec := "fnCutKeepsLeftAndAppends", apart := false }
def FnCutKeepsLeftAndAppendsSaid : Prop := fnCutKeepsLeftAndAppendsRow.holds Try.pinned (OpenSpec.ofChange fnCutKeepsLeftAndAppendsSpec)

/-- ITS FALSE NEIGHBOUR: 'it returns false'. Refute it at one input. -/
def fnCutKeepsLeftAndAppendsWrong : ChangeSpec := { name := "fnCutKeepsLeftAndAppends", fn := fun _ => fun
  | [d1, d2, d3, d4, d5, d6, d7] => { results := [.lit (.bool false)], args := [d1, d2, d3, d4, d5, d6, d7] }
  | _ => none }
def FnCutKeepsLeftAndAppendsWrongFalsely : Prop := fnCutKeepsLeftAndAppendsRow.holds Try.pinned (OpenSpec.ofChange fnCutKeepsLeftAndAppendsWrong)

/-- 'zzlaws_internal_overlay_b1.FnParentOfIsRootExactlyWhenEntryInZoneAndBox': WHATEVER THE INPUT: true; the input reads as it did. -/
def fnParentOfIsRootExactlyWhenEntryInZoneAndBoxSpec : ChangeSpec := { name := "fnParentOfIsRootExactlyWhenEntryInZoneAndBox", fn := fun _ => fun
  | [d1, d2, d3, d4, d5] => { results := [.lit (.bool true)], args := [d1, d2, d3, d4, d5] }
  | _ => none }
def fnParentOfIsRootExactlyWhenEntryInZoneAndBoxRow : OpenClaim := { program := "qxb6600053a", sum := "aa224f7c29acbb7b28740f45a1b7a29d8c2f6870ea36cd929accac005073f383", func := "example.com/tessera/tessera/zzlaws_internal_overlay_b1.FnParentOfIsRootExactlyWhenEntryInZoneAndBox", spec := "fnParentOfIsRootExactlyWhenEntryInZoneAndBox", apart := false }
def FnParentOfIsRootExactlyWhenEntryInZoneAndBoxSaid : Prop := fnParentOfIsRootExactlyWhenEntryInZoneAndBoxRow.holds Try.pinned (OpenSpec.ofChange fnParentOfIsRootExactlyWhenEntryInZoneAndBoxSpec)

/-- ITS FALSE NEIGHBOUR: 'it returns false'. Refute it at one input. -/
def fnParentOfIsRootExactlyWhenEntryInZoneAndBoxWrong : ChangeSpec := { name := "fnParentOfIsRootExactlyWhenEntryInZoneAndBox", fn := fun _ => fun
  | [d1, d2, d3, d4, d5] => { results := [.lit (.bool false)], args := [d1, d2, d3, d4, d5] }
  | _ => none }
def FnParentOfIsRootExactlyWhenEntryInZoneAndBoxWrongFalsely : Prop := fnParentOfIsRootExactlyWhenEntryInZoneAndBoxRow.holds Try.pinned (OpenSpec.ofChange fnParentOfIsRootExactlyWhenEntryInZoneAndBoxWrong)

/-- 'zzlaws_internal_overlay_b1.FnParentOfBordersZoneAcrossOneFaceInsideBox': WHATEVER THE INPUT: true; the input reads as it did. -/
def fnParentOfBordersZoneAcrossOneFaceInsideBoxSpec : ChangeSpec := { name := "fnParentOfBordersZoneAcrossOneFaceInsideBox", fn := fun _ => fun
  | [d1, d2, d3, d4, d5] => { results := [.lit (.bool true)], args := [d1, d2, d3, d4, d5] }
  | _ => none }
def fnParentOfBordersZoneAcrossOneFaceInsideBoxRow : OpenClaim := { program := "qxb6600053a", sum := "aa224f7c29acbb7b28740f45a1b7a29d8c2f6870ea36cd929accac005073f383", func := "example.com/tessera/tessera/zzlaws_internal_overlay_b1.FnParentOfBordersZoneAcrossOneFaceInsideBox", spec := "fnParentOfBordersZoneAcrossOneFaceInsideBox", apart := false }
def FnParentOfBordersZoneAcrossOneFaceInsideBoxSaid : Prop := fnParentOfBordersZoneAcrossOneFaceInsideBoxRow.holds Try.pinned (OpenSpec.ofChange fnParentOfBordersZoneAcrossOneFaceInsideBoxSpec)

/-- ITS FALSE NEIGHBOUR: 'it returns false'. Refute it at one input. -/
def fnParentOfBordersZoneAcrossOneFaceInsideBoxWrong : ChangeSpec := { name := "fnParentOfBordersZoneAcrossOneFaceInsideBox", fn := fun _ => fun
  | [d1, d2, d3, d4, d5] => { results := [.lit (.bool false)], args := [d1, d2, d3, d4, d5] }
  | _ => none }
def FnParentOfBordersZoneAcrossOneFaceInsideBoxWrongFalsely : Prop := fnParentOfBordersZoneAcrossOneFaceInsideBoxRow.holds Try.pinned (OpenSpec.ofChange fnParentOfBordersZoneAcrossOneFaceInsideBoxWrong)

end Rows
end Go.Proofs.Qxb6600053a
