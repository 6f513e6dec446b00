/-
  No cell of these rows narrows 'for every input' (looked for: loops, veiled, ifaces, maps, wideKeys, modest, calm, conditions, laid).
  DERIVED. THE GIVEN ROWS OF THIS SEAT. 4 by the template 'for every input the law returns true; each argument reads behind the call as it read before'; 0 by the template 'total and deterministic' (their statements: Qxb6601730aTotals.lean).
  GIVEN WITH THE SEED: the statements are not yours to turn. If you find one false, say at which input.
  Laid BY PROGRAM, IN A SANDBOX (cutbox-rows.mjs): the forced cells as the released guide's own fill.sh prints them over the translation 38dede4a83e636d1… (all of the seat's roots in one cut). By AI agents, Wed Nov 11 2026. No macro, syntax, notation, axiom, sorry.
-/
import Derived.Test.Qxb6601730aChecked
import GoSem.Claim
import GoSem.ClaimJoined
import GoSem.ClaimMapViews
import Derived.JoinedTies
import Derived.KernelRfl
namespace Go.Proofs.Qxb6601730a
/- THE CELL 'sum', in the pinned program and in every row, IS THE sha256 OF THE DUMP (.gsa) THAT Qxb6601730aProg.lean LOADS. Nothing in Lean hashes anything: it is a label: what it is worth is what the hold of that sum in a sandbox is worth. -/
noncomputable def Try.pinned : Pinned := { name := "qxb6601730a", sum := "38dede4a83e636d1dc4a1912ef9735e89a2a59a2a61503f2d1d65f03ee43128b", checked := Try.checked }
namespace Rows
def none {H : Type} : Left H := { results := [], args := [] }

/-- 'zzlaws_tomldoc_b1.FnWriteQuotedIsCanonicalTomlString': WHATEVER THE INPUT: true; the input reads as it did. -/
def fnWriteQuotedIsCanonicalTomlStringSpec : ChangeSpec := { name := "fnWriteQuotedIsCanonicalTomlString", fn := fun _ => fun
  | [d1, d2] => { results := [.lit (.bool true)], args := [d1, d2] }
  | _ => none }
def fnWriteQuotedIsCanonicalTomlStringRow : OpenClaim := { program := "qxb6601730a", sum := "38dede4a83e636d1dc4a1912ef9735e89a2a59a2a61503f2d1d65f03ee43128b", func := "example.com/tuoguan/tuoguan/zzlaws_tomldoc_b1.FnWriteQuotedIsCanonicalTomlString", spec := "fnWriteQuotedIsCanonicalTomlString", inPlace := ["internal/abi.NoEscape"], apart := false }
def FnWriteQuotedIsCanonicalTomlStringSaid : Prop := fnWriteQuotedIsCanonicalTomlStringRow.holds Try.pinned (OpenSpec.ofChange fnWriteQuotedIsCanonicalTomlStringSpec)

/-- ITS FALSE NEIGHBOUR: 'it returns false'. Refute it at one input. -/
def fnWriteQuotedIsCanonicalTomlStringWrong : ChangeSpec := { name := "fnWriteQuotedIsCanonicalTomlString", fn := fun _ => fun
  | [d1, d2] => { results := [.lit (.bool false)], args := [d1, d2] }
  | _ => none }
def FnWriteQuotedIsCanonicalTomlStringWrongFalsely : Prop := fnWriteQuotedIsCanonicalTomlStringRow.holds Try.pinned (OpenSpec.ofChange fnWriteQuotedIsCanonicalTomlStringWrong)

/-- 'zzlaws_tomldoc_b1.FnWriteQuotedSplitsAtRuneBoundary': WHATEVER THE INPUT: true; the input reads as it did. -/
def fnWriteQuotedSplitsAtRuneBoundarySpec : ChangeSpec := { name := "fnWriteQuotedSplitsAtRuneBoundary", fn := fun _ => fun
  | [d1, d2] => { results := [.lit (.bool true)], args := [d1, d2] }
  | _ => none }
def fnWriteQuotedSplitsAtRuneBoundaryRow : OpenClaim := { program := "qxb6601730a", sum := "38dede4a83e636d1dc4a1912ef9735e89a2a59a2a61503f2d1d65f03ee43128b", func := "example.com/tuoguan/tuoguan/zzlaws_tomldoc_b1.FnWriteQuotedSplitsAtRuneBoundary", spec := "fnWriteQuotedSplitsAtRuneBoundary", inPlace := ["internal/abi.NoEscape"], apart := false }
def FnWriteQuotedSplitsAtRuneBoundarySaid : Prop := fnWriteQuotedSplitsAtRuneBoundaryRow.holds Try.pinned (OpenSpec.ofChange fnWriteQuotedSplitsAtRuneBoundarySpec)

/-- ITS FALSE NEIGHBOUR: 'it returns false'. Refute it at one input. -/
def fnWriteQuotedSplitsAtRuneBoundaryWrong : ChangeSpec := { name := "fnWriteQuotedSplitsAtRuneBoundary", fn := fun _ => fun
  | [d1, d2] => { results := [.lit (.bool false)], args := [d1, d2] }
  | _ => none }
def FnWriteQuotedSplitsAtRuneBoundaryWrongFalsely : Prop := fnWriteQuotedSplitsAtRuneBoundaryRow.holds Try.pinned (OpenSpec.ofChange fnWriteQuotedSplitsAtRuneBoundaryWrong)

/-- 'zzlaws_tomldoc_b1.FnSmallIntegerExact': WHATEVER THE INPUT: true; the input reads as it did. -/
def fnSmallIntegerExactSpec : ChangeSpec := { name := "fnSmallIntegerExact", fn := fun _ => fun
  | [d] => { results := [.lit (.bool true)], args := [d] }
  | _ => none }
def fnSmallIntegerExactRow : OpenClaim := { program := "qxb6601730a", sum := "38dede4a83e636d1dc4a1912ef9735e89a2a59a2a61503f2d1d65f03ee43128b", func := "example.com/tuoguan/tuoguan/zzlaws_tomldoc_b1.FnSmallIntegerExact", spec := "fnSmallIntegerExact", apart := false }
def FnSmallIntegerExactSaid : Prop := fnSmallIntegerExactRow.holds Try.pinned (OpenSpec.ofChange fnSmallIntegerExactSpec)

/-- ITS FALSE NEIGHBOUR: 'it returns false'. Refute it at one input. -/
def fnSmallIntegerExactWrong : ChangeSpec := { name := "fnSmallIntegerExact", fn := fun _ => fun
  | [d] => { results := [.lit (.bool false)], args := [d] }
  | _ => none }
def FnSmallIntegerExactWrongFalsely : Prop := fnSmallIntegerExactRow.holds Try.pinned (OpenSpec.ofChange fnSmallIntegerExactWrong)

/-- 'zzlaws_tomldoc_b1.FnSmallIntegerOrderIsShortlex': WHATEVER THE INPUT: true; the input reads as it did. -/
def fnSmallIntegerOrderIsShortlexSpec : ChangeSpec := { name := "fnSmallIntegerOrderIsShortlex", fn := fun _ => fun
  | [d1, d2] => { results := [.lit (.bool true)], args := [d1, d2] }
  | _ => none }
def fnSmallIntegerOrderIsShortlexRow : OpenClaim := { program := "qxb6601730a", sum := "38dede4a83e636d1dc4a1912ef9735e89a2a59a2a61503f2d1d65f03ee43128b", func := "example.com/tuoguan/tuoguan/zzlaws_tomldoc_b1.FnSmallIntegerOrderIsShortlex", spec := "fnSmallIntegerOrderIsShortlex", apart := false }
def FnSmallIntegerOrderIsShortlexSaid : Prop := fnSmallIntegerOrderIsShortlexRow.holds Try.pinned (OpenSpec.ofChange fnSmallIntegerOrderIsShortlexSpec)

/-- ITS FALSE NEIGHBOUR: 'it returns false'. Refute it at one input. -/
def fnSmallIntegerOrderIsShortlexWrong : ChangeSpec := { name := "fnSmallIntegerOrderIsShortlex", fn := fun _ => fun
  | [d1, d2] => { results := [.lit (.bool false)], args := [d1, d2] }
  | _ => none }
def FnSmallIntegerOrderIsShortlexWrongFalsely : Prop := fnSmallIntegerOrderIsShortlexRow.holds Try.pinned (OpenSpec.ofChange fnSmallIntegerOrderIsShortlexWrong)

end Rows
end Go.Proofs.Qxb6601730a
