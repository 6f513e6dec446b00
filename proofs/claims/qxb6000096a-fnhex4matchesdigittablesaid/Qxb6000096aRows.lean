/-
  No cell of these rows narrows 'for every input' (looked for: loops, veiled, ifaces, maps, wideKeys, modest, calm, conditions, laid).
  DERIVED. THE GIVEN ROWS OF THIS SEAT. 4 by the template 'for every input the law returns true; each argument reads behind the call as it read before'; 0 by the template 'total and deterministic' (their statements: Qxb6000096aTotals.lean).
  GIVEN WITH THE SEED: the statements are not yours to turn. If you find one false, say at which input.
  Laid BY PROGRAM, IN A SANDBOX (cutbox-rows.mjs): the forced cells as the released guide's own fill.sh prints them over the translation 686a8229f389c1d3… (all of the seat's roots in one cut). By AI agents, Wed Nov 11 2026. No macro, syntax, notation, axiom, sorry.
-/
import Derived.Test.Qxb6000096aChecked
import GoSem.Claim
import GoSem.ClaimJoined
import GoSem.ClaimMapViews
import Derived.JoinedTies
import Derived.KernelRfl
namespace Go.Proofs.Qxb6000096a
/- THE CELL 'sum', in the pinned program and in every row, IS THE sha256 OF THE DUMP (.gsa) THAT Qxb6000096aProg.lean LOADS. Nothing in Lean hashes anything: it is a label: what it is worth is what the hold of that sum in a sandbox is worth. -/
noncomputable def Try.pinned : Pinned := { name := "qxb6000096a", sum := "686a8229f389c1d345431f75039e3c647c913a5ee183d0085d28d923276e09a2", checked := Try.checked }
namespace Rows
def none {H : Type} : Left H := { results := [], args := [] }

/-- 'zzlaws_internal_jsonvalue_b1.FnHex4MatchesDigitTable': WHATEVER THE INPUT: true; the input reads as it did. -/
def fnHex4MatchesDigitTableSpec : ChangeSpec := { name := "fnHex4MatchesDigitTable", fn := fun _ => fun
  | [d] => { results := [.lit (.bool true)], args := [d] }
  | _ => none }
def fnHex4MatchesDigitTableRow : OpenClaim := { program := "qxb6000096a", sum := "686a8229f389c1d345431f75039e3c647c913a5ee183d0085d28d923276e09a2", func := "example.com/osprey/osprey/zzlaws_internal_jsonvalue_b1.FnHex4MatchesDigitTable", spec := "fnHex4MatchesDigitTable", apart := false }
def FnHex4MatchesDigitTableSaid : Prop := fnHex4MatchesDigitTableRow.holds Try.pinned (OpenSpec.ofChange fnHex4MatchesDigitTableSpec)

/-- ITS FALSE NEIGHBOUR: 'it returns false'. Refute it at one input. -/
def fnHex4MatchesDigitTableWrong : ChangeSpec := { name := "fnHex4MatchesDigitTable", fn := fun _ => fun
  | [d] => { results := [.lit (.bool false)], args := [d] }
  | _ => none }
def FnHex4MatchesDigitTableWrongFalsely : Prop := fnHex4MatchesDigitTableRow.holds Try.pinned (OpenSpec.ofChange fnHex4MatchesDigitTableWrong)

/-- 'zzlaws_internal_jsonvalue_b1.FnHex4ReadsWhatIsWritten': WHATEVER THE INPUT: true; the input reads as it did. -/
def fnHex4ReadsWhatIsWrittenSpec : ChangeSpec := { name := "fnHex4ReadsWhatIsWritten", fn := fun _ => fun
  | [d1, d2, d3] => { results := [.lit (.bool true)], args := [d1, d2, d3] }
  | _ => none }
def fnHex4ReadsWhatIsWrittenRow : OpenClaim := { program := "qxb6000096a", sum := "686a8229f389c1d345431f75039e3c647c913a5ee183d0085d28d923276e09a2", func := "example.com/osprey/osprey/zzlaws_internal_jsonvalue_b1.FnHex4ReadsWhatIsWritten", spec := "fnHex4ReadsWhatIsWritten", apart := false }
def FnHex4ReadsWhatIsWrittenSaid : Prop := fnHex4ReadsWhatIsWrittenRow.holds Try.pinned (OpenSpec.ofChange fnHex4ReadsWhatIsWrittenSpec)

/-- ITS FALSE NEIGHBOUR: 'it returns false'. Refute it at one input. -/
def fnHex4ReadsWhatIsWrittenWrong : ChangeSpec := { name := "fnHex4ReadsWhatIsWritten", fn := fun _ => fun
  | [d1, d2, d3] => { results := [.lit (.bool false)], args := [d1, d2, d3] }
  | _ => none }
def FnHex4ReadsWhatIsWrittenWrongFalsely : Prop := fnHex4ReadsWhatIsWrittenRow.holds Try.pinned (OpenSpec.ofChange fnHex4ReadsWhatIsWrittenWrong)

/-- 'zzlaws_internal_jsonvalue_b1.FnHex4IgnoresLetterCase': WHATEVER THE INPUT: true; the input reads as it did. -/
def fnHex4IgnoresLetterCaseSpec : ChangeSpec := { name := "fnHex4IgnoresLetterCase", fn := fun _ => fun
  | [d] => { results := [.lit (.bool true)], args := [d] }
  | _ => none }
def fnHex4IgnoresLetterCaseRow : OpenClaim := { program := "qxb6000096a", sum := "686a8229f389c1d345431f75039e3c647c913a5ee183d0085d28d923276e09a2", func := "example.com/osprey/osprey/zzlaws_internal_jsonvalue_b1.FnHex4IgnoresLetterCase", spec := "fnHex4IgnoresLetterCase", apart := false }
def FnHex4IgnoresLetterCaseSaid : Prop := fnHex4IgnoresLetterCaseRow.holds Try.pinned (OpenSpec.ofChange fnHex4IgnoresLetterCaseSpec)

/-- ITS FALSE NEIGHBOUR: 'it returns false'. Refute it at one input. -/
def fnHex4IgnoresLetterCaseWrong : ChangeSpec := { name := "fnHex4IgnoresLetterCase", fn := fun _ => fun
  | [d] => { results := [.lit (.bool false)], args := [d] }
  | _ => none }
def FnHex4IgnoresLetterCaseWrongFalsely : Prop := fnHex4IgnoresLetterCaseRow.holds Try.pinned (OpenSpec.ofChange fnHex4IgnoresLetterCaseWrong)

/-- 'zzlaws_internal_jsonvalue_b1.FnAppendEscapeDecodesBack': WHATEVER THE INPUT: true; the input reads as it did. -/
def fnAppendEscapeDecodesBackSpec : ChangeSpec := { name := "fnAppendEscapeDecodesBack", fn := fun _ => fun
  | [d] => { results := [.lit (.bool true)], args := [d] }
  | _ => none }
def fnAppendEscapeDecodesBackRow : OpenClaim := { program := "qxb6000096a", sum := "686a8229f389c1d345431f75039e3c647c913a5ee183d0085d28d923276e09a2", func := "example.com/osprey/osprey/zzlaws_internal_jsonvalue_b1.FnAppendEscapeDecodesBack", spec := "fnAppendEscapeDecodesBack", apart := false }
def FnAppendEscapeDecodesBackSaid : Prop := fnAppendEscapeDecodesBackRow.holds Try.pinned (OpenSpec.ofChange fnAppendEscapeDecodesBackSpec)

/-- ITS FALSE NEIGHBOUR: 'it returns false'. Refute it at one input. -/
def fnAppendEscapeDecodesBackWrong : ChangeSpec := { name := "fnAppendEscapeDecodesBack", fn := fun _ => fun
  | [d] => { results := [.lit (.bool false)], args := [d] }
  | _ => none }
def FnAppendEscapeDecodesBackWrongFalsely : Prop := fnAppendEscapeDecodesBackRow.holds Try.pinned (OpenSpec.ofChange fnAppendEscapeDecodesBackWrong)

end Rows
end Go.Proofs.Qxb6000096a
