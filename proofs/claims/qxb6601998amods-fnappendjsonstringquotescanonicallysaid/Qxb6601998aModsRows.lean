/-
  No cell of these rows narrows 'for every input' (looked for: loops, veiled, ifaces, maps, wideKeys, modest, calm, conditions, laid).
  DERIVED. THE GIVEN ROWS OF THIS SEAT. 5 by the template 'for every input the law returns true; each argument reads behind the call as it read before'; 0 by the template 'total and deterministic' (their statements: Qxb6601998aModsTotals.lean).
  GIVEN WITH THE SEED: the statements are not yours to turn. If you find one false, say at which input.
  Laid BY PROGRAM, IN A SANDBOX (cutbox-rows.mjs): the forced cells as the released guide's own fill.sh prints them over the translation 063a6a3f5a9fc591… (all of the seat's roots in one cut). By AI agents, Wed Nov 11 2026. No macro, syntax, notation, axiom, sorry.
-/
import Derived.Test.Qxb6601998aModsChecked
import GoSem.Claim
import GoSem.ClaimJoined
import GoSem.ClaimMapViews
import Derived.JoinedTies
import Derived.KernelRfl
namespace Go.Proofs.Qxb6601998aMods
/- THE CELL 'sum', in the pinned program and in every row, IS THE sha256 OF THE DUMP (.gsa) THAT Qxb6601998aModsProg.lean LOADS. Nothing in Lean hashes anything: it is a label: what it is worth is what the hold of that sum in a sandbox is worth. -/
noncomputable def Trym.pinned : Pinned := { name := "qxb6601998amods", sum := "063a6a3f5a9fc591e79ce919703ce049196a6dc3d0c3ae0072c25d680209772a", checked := Trym.checked }
namespace Rows
def none {H : Type} : Left H := { results := [], args := [] }

/-- 'zzlaws_root_b1.FnCompareConverse': WHATEVER THE INPUT: true; the input reads as it did. -/
def fnCompareConverseSpec : ChangeSpec := { name := "fnCompareConverse", fn := fun _ => fun
  | [d1, d2] => { results := [.lit (.bool true)], args := [d1, d2] }
  | _ => none }
def fnCompareConverseRow : OpenClaim := { program := "qxb6601998amods", sum := "063a6a3f5a9fc591e79ce919703ce049196a6dc3d0c3ae0072c25d680209772a", func := "example.com/cutline/cutline/zzlaws_root_b1.FnCompareConverse", spec := "fnCompareConverse", make := .lifted ["publicsums"], apart := false }
def FnCompareConverseSaid : Prop := fnCompareConverseRow.holds Trym.pinned (OpenSpec.ofChange fnCompareConverseSpec)

/-- ITS FALSE NEIGHBOUR: 'it returns false'. Refute it at one input. -/
def fnCompareConverseWrong : ChangeSpec := { name := "fnCompareConverse", fn := fun _ => fun
  | [d1, d2] => { results := [.lit (.bool false)], args := [d1, d2] }
  | _ => none }
def FnCompareConverseWrongFalsely : Prop := fnCompareConverseRow.holds Trym.pinned (OpenSpec.ofChange fnCompareConverseWrong)

/-- 'zzlaws_root_b1.FnCompareTransitive': WHATEVER THE INPUT: true; the input reads as it did. -/
def fnCompareTransitiveSpec : ChangeSpec := { name := "fnCompareTransitive", fn := fun _ => fun
  | [d1, d2, d3] => { results := [.lit (.bool true)], args := [d1, d2, d3] }
  | _ => none }
def fnCompareTransitiveRow : OpenClaim := { program := "qxb6601998amods", sum := "063a6a3f5a9fc591e79ce919703ce049196a6dc3d0c3ae0072c25d680209772a", func := "example.com/cutline/cutline/zzlaws_root_b1.FnCompareTransitive", spec := "fnCompareTransitive", make := .lifted ["publicsums"], apart := false }
def FnCompareTransitiveSaid : Prop := fnCompareTransitiveRow.holds Trym.pinned (OpenSpec.ofChange fnCompareTransitiveSpec)

/-- ITS FALSE NEIGHBOUR: 'it returns false'. Refute it at one input. -/
def fnCompareTransitiveWrong : ChangeSpec := { name := "fnCompareTransitive", fn := fun _ => fun
  | [d1, d2, d3] => { results := [.lit (.bool false)], args := [d1, d2, d3] }
  | _ => none }
def FnCompareTransitiveWrongFalsely : Prop := fnCompareTransitiveRow.holds Trym.pinned (OpenSpec.ofChange fnCompareTransitiveWrong)

/-- 'zzlaws_root_b1.FnAppendJSONStringQuotesCanonically': WHATEVER THE INPUT: true; the input reads as it did. -/
def fnAppendJSONStringQuotesCanonicallySpec : ChangeSpec := { name := "fnAppendJSONStringQuotesCanonically", fn := fun _ => fun
  | [d1, d2] => { results := [.lit (.bool true)], args := [d1, d2] }
  | _ => none }
def fnAppendJSONStringQuotesCanonicallyRow : OpenClaim := { program := "qxb6601998amods", sum := "063a6a3f5a9fc591e79ce919703ce049196a6dc3d0c3ae0072c25d680209772a", func := "example.com/cutline/cutline/zzlaws_root_b1.FnAppendJSONStringQuotesCanonically", spec := "fnAppendJSONStringQuotesCanonically", make := .lifted ["publicsums"], apart := false }
def FnAppendJSONStringQuotesCanonicallySaid : Prop := fnAppendJSONStringQuotesCanonicallyRow.holds Trym.pinned (OpenSpec.ofChange fnAppendJSONStringQuotesCanonicallySpec)

/-- ITS FALSE NEIGHBOUR: 'it returns false'. Refute it at one input. -/
def fnAppendJSONStringQuotesCanonicallyWrong : ChangeSpec := { name := "fnAppendJSONStringQuotesCanonically", fn := fun _ => fun
  | [d1, d2] => { results := [.lit (.bool false)], args := [d1, d2] }
  | _ => none }
def FnAppendJSONStringQuotesCanonicallyWrongFalsely : Prop := fnAppendJSONStringQuotesCanonicallyRow.holds Trym.pinned (OpenSpec.ofChange fnAppendJSONStringQuotesCanonicallyWrong)

/-- 'zzlaws_root_b1.FnAppendJSONStringSplitsAtConcatenation': WHATEVER THE INPUT: true; the input reads as it did. -/
def fnAppendJSONStringSplitsAtConcatenationSpec : ChangeSpec := { name := "fnAppendJSONStringSplitsAtConcatenation", fn := fun _ => fun
  | [d1, d2] => { results := [.lit (.bool true)], args := [d1, d2] }
  | _ => none }
def fnAppendJSONStringSplitsAtConcatenationRow : OpenClaim := { program := "qxb6601998amods", sum := "063a6a3f5a9fc591e79ce919703ce049196a6dc3d0c3ae0072c25d680209772a", func := "example.com/cutline/cutline/zzlaws_root_b1.FnAppendJSONStringSplitsAtConcatenation", spec := "fnAppendJSONStringSplitsAtConcatenation", make := .lifted ["publicsums"], apart := false }
def FnAppendJSONStringSplitsAtConcatenationSaid : Prop := fnAppendJSONStringSplitsAtConcatenationRow.holds Trym.pinned (OpenSpec.ofChange fnAppendJSONStringSplitsAtConcatenationSpec)

/-- ITS FALSE NEIGHBOUR: 'it returns false'. Refute it at one input. -/
def fnAppendJSONStringSplitsAtConcatenationWrong : ChangeSpec := { name := "fnAppendJSONStringSplitsAtConcatenation", fn := fun _ => fun
  | [d1, d2] => { results := [.lit (.bool false)], args := [d1, d2] }
  | _ => none }
def FnAppendJSONStringSplitsAtConcatenationWrongFalsely : Prop := fnAppendJSONStringSplitsAtConcatenationRow.holds Trym.pinned (OpenSpec.ofChange fnAppendJSONStringSplitsAtConcatenationWrong)

/-- 'zzlaws_root_b1.FnAppendJSONStringLengthBounds': WHATEVER THE INPUT: true; the input reads as it did. -/
def fnAppendJSONStringLengthBoundsSpec : ChangeSpec := { name := "fnAppendJSONStringLengthBounds", fn := fun _ => fun
  | [d1, d2] => { results := [.lit (.bool true)], args := [d1, d2] }
  | _ => none }
def fnAppendJSONStringLengthBoundsRow : OpenClaim := { program := "qxb6601998amods", sum := "063a6a3f5a9fc591e79ce919703ce049196a6dc3d0c3ae0072c25d680209772a", func := "example.com/cutline/cutline/zzlaws_root_b1.FnAppendJSONStringLengthBounds", spec := "fnAppendJSONStringLengthBounds", make := .lifted ["publicsums"], apart := false }
def FnAppendJSONStringLengthBoundsSaid : Prop := fnAppendJSONStringLengthBoundsRow.holds Trym.pinned (OpenSpec.ofChange fnAppendJSONStringLengthBoundsSpec)

/-- ITS FALSE NEIGHBOUR: 'it returns false'. Refute it at one input. -/
def fnAppendJSONStringLengthBoundsWrong : ChangeSpec := { name := "fnAppendJSONStringLengthBounds", fn := fun _ => fun
  | [d1, d2] => { results := [.lit (.bool false)], args := [d1, d2] }
  | _ => none }
def FnAppendJSONStringLengthBoundsWrongFalsely : Prop := fnAppendJSONStringLengthBoundsRow.holds Trym.pinned (OpenSpec.ofChange fnAppendJSONStringLengthBoundsWrong)

end Rows
end Go.Proofs.Qxb6601998aMods
