/-
  No cell of these rows narrows 'for every input' (looked for: loops, veiled, ifaces, maps, wideKeys, modest, calm, conditions, laid).
  DERIVED. THE GIVEN ROWS OF THIS SEAT. 5 by the template 'for every input the law returns true; each argument reads behind the call as it read before'; 0 by the template 'total and deterministic' (their statements: Qxb6601466aModsTotals.lean).
  GIVEN WITH THE SEED: the statements are not yours to turn. If you find one false, say at which input.
  Laid BY PROGRAM, IN A SANDBOX (cutbox-rows.mjs): the forced cells as the released guide's own fill.sh prints them over the translation 23c560bab9fd3255… (all of the seat's roots in one cut). By AI agents, Wed Nov 11 2026. No macro, syntax, notation, axiom, sorry.
-/
import Derived.Test.Qxb6601466aModsChecked
import GoSem.Claim
import GoSem.ClaimJoined
import GoSem.ClaimMapViews
import Derived.JoinedTies
import Derived.KernelRfl
namespace Go.Proofs.Qxb6601466aMods
/- THE CELL 'sum', in the pinned program and in every row, IS THE sha256 OF THE DUMP (.gsa) THAT Qxb6601466aModsProg.lean LOADS. Nothing in Lean hashes anything: it is a label: what it is worth is what the hold of that sum in a sandbox is worth. -/
noncomputable def Trym.pinned : Pinned := { name := "qxb6601466amods", sum := "23c560bab9fd32558f9568295ea78dbbae7488223901be36e0d74ce3a86deffc", checked := Trym.checked }
namespace Rows
def none {H : Type} : Left H := { results := [], args := [] }

/-- 'zzlaws_controller_b1.FnSkipEndsWhereTheValueEnds': WHATEVER THE INPUT: true; the input reads as it did. -/
def fnSkipEndsWhereTheValueEndsSpec : ChangeSpec := { name := "fnSkipEndsWhereTheValueEnds", fn := fun _ => fun
  | [d1, d2] => { results := [.lit (.bool true)], args := [d1, d2] }
  | _ => none }
def fnSkipEndsWhereTheValueEndsRow : OpenClaim := { program := "qxb6601466amods", sum := "23c560bab9fd32558f9568295ea78dbbae7488223901be36e0d74ce3a86deffc", func := "example.com/keelson/keelson/zzlaws_controller_b1.FnSkipEndsWhereTheValueEnds", spec := "fnSkipEndsWhereTheValueEnds", make := .lifted ["publicsums"], apart := false }
def FnSkipEndsWhereTheValueEndsSaid : Prop := fnSkipEndsWhereTheValueEndsRow.holds Trym.pinned (OpenSpec.ofChange fnSkipEndsWhereTheValueEndsSpec)

/-- ITS FALSE NEIGHBOUR: 'it returns false'. Refute it at one input. -/
def fnSkipEndsWhereTheValueEndsWrong : ChangeSpec := { name := "fnSkipEndsWhereTheValueEnds", fn := fun _ => fun
  | [d1, d2] => { results := [.lit (.bool false)], args := [d1, d2] }
  | _ => none }
def FnSkipEndsWhereTheValueEndsWrongFalsely : Prop := fnSkipEndsWhereTheValueEndsRow.holds Trym.pinned (OpenSpec.ofChange fnSkipEndsWhereTheValueEndsWrong)

/-- 'zzlaws_controller_b1.FnWalkArrayWithNextAndSkip': WHATEVER THE INPUT: true; the input reads as it did. -/
def fnWalkArrayWithNextAndSkipSpec : ChangeSpec := { name := "fnWalkArrayWithNextAndSkip", fn := fun _ => fun
  | [d1, d2] => { results := [.lit (.bool true)], args := [d1, d2] }
  | _ => none }
def fnWalkArrayWithNextAndSkipRow : OpenClaim := { program := "qxb6601466amods", sum := "23c560bab9fd32558f9568295ea78dbbae7488223901be36e0d74ce3a86deffc", func := "example.com/keelson/keelson/zzlaws_controller_b1.FnWalkArrayWithNextAndSkip", spec := "fnWalkArrayWithNextAndSkip", make := .lifted ["publicsums"], apart := false }
def FnWalkArrayWithNextAndSkipSaid : Prop := fnWalkArrayWithNextAndSkipRow.holds Trym.pinned (OpenSpec.ofChange fnWalkArrayWithNextAndSkipSpec)

/-- ITS FALSE NEIGHBOUR: 'it returns false'. Refute it at one input. -/
def fnWalkArrayWithNextAndSkipWrong : ChangeSpec := { name := "fnWalkArrayWithNextAndSkip", fn := fun _ => fun
  | [d1, d2] => { results := [.lit (.bool false)], args := [d1, d2] }
  | _ => none }
def FnWalkArrayWithNextAndSkipWrongFalsely : Prop := fnWalkArrayWithNextAndSkipRow.holds Trym.pinned (OpenSpec.ofChange fnWalkArrayWithNextAndSkipWrong)

/-- 'zzlaws_controller_b1.FnWalkObjectWithNextStrAndSkip': WHATEVER THE INPUT: true; the input reads as it did. -/
def fnWalkObjectWithNextStrAndSkipSpec : ChangeSpec := { name := "fnWalkObjectWithNextStrAndSkip", fn := fun _ => fun
  | [d1, d2] => { results := [.lit (.bool true)], args := [d1, d2] }
  | _ => none }
def fnWalkObjectWithNextStrAndSkipRow : OpenClaim := { program := "qxb6601466amods", sum := "23c560bab9fd32558f9568295ea78dbbae7488223901be36e0d74ce3a86deffc", func := "example.com/keelson/keelson/zzlaws_controller_b1.FnWalkObjectWithNextStrAndSkip", spec := "fnWalkObjectWithNextStrAndSkip", make := .lifted ["publicsums"], apart := false }
def FnWalkObjectWithNextStrAndSkipSaid : Prop := fnWalkObjectWithNextStrAndSkipRow.holds Trym.pinned (OpenSpec.ofChange fnWalkObjectWithNextStrAndSkipSpec)

/-- ITS FALSE NEIGHBOUR: 'it returns false'. Refute it at one input. -/
def fnWalkObjectWithNextStrAndSkipWrong : ChangeSpec := { name := "fnWalkObjectWithNextStrAndSkip", fn := fun _ => fun
  | [d1, d2] => { results := [.lit (.bool false)], args := [d1, d2] }
  | _ => none }
def FnWalkObjectWithNextStrAndSkipWrongFalsely : Prop := fnWalkObjectWithNextStrAndSkipRow.holds Trym.pinned (OpenSpec.ofChange fnWalkObjectWithNextStrAndSkipWrong)

/-- 'zzlaws_controller_b1.FnStrStopsAtFirstUnescapedQuote': WHATEVER THE INPUT: true; the input reads as it did. -/
def fnStrStopsAtFirstUnescapedQuoteSpec : ChangeSpec := { name := "fnStrStopsAtFirstUnescapedQuote", fn := fun _ => fun
  | [d1, d2] => { results := [.lit (.bool true)], args := [d1, d2] }
  | _ => none }
def fnStrStopsAtFirstUnescapedQuoteRow : OpenClaim := { program := "qxb6601466amods", sum := "23c560bab9fd32558f9568295ea78dbbae7488223901be36e0d74ce3a86deffc", func := "example.com/keelson/keelson/zzlaws_controller_b1.FnStrStopsAtFirstUnescapedQuote", spec := "fnStrStopsAtFirstUnescapedQuote", make := .lifted ["publicsums"], apart := false }
def FnStrStopsAtFirstUnescapedQuoteSaid : Prop := fnStrStopsAtFirstUnescapedQuoteRow.holds Trym.pinned (OpenSpec.ofChange fnStrStopsAtFirstUnescapedQuoteSpec)

/-- ITS FALSE NEIGHBOUR: 'it returns false'. Refute it at one input. -/
def fnStrStopsAtFirstUnescapedQuoteWrong : ChangeSpec := { name := "fnStrStopsAtFirstUnescapedQuote", fn := fun _ => fun
  | [d1, d2] => { results := [.lit (.bool false)], args := [d1, d2] }
  | _ => none }
def FnStrStopsAtFirstUnescapedQuoteWrongFalsely : Prop := fnStrStopsAtFirstUnescapedQuoteRow.holds Trym.pinned (OpenSpec.ofChange fnStrStopsAtFirstUnescapedQuoteWrong)

/-- 'zzlaws_controller_b1.FnStrReadsBackWhatQuotingWrote': WHATEVER THE INPUT: true; the input reads as it did. -/
def fnStrReadsBackWhatQuotingWroteSpec : ChangeSpec := { name := "fnStrReadsBackWhatQuotingWrote", fn := fun _ => fun
  | [d1, d2] => { results := [.lit (.bool true)], args := [d1, d2] }
  | _ => none }
def fnStrReadsBackWhatQuotingWroteRow : OpenClaim := { program := "qxb6601466amods", sum := "23c560bab9fd32558f9568295ea78dbbae7488223901be36e0d74ce3a86deffc", func := "example.com/keelson/keelson/zzlaws_controller_b1.FnStrReadsBackWhatQuotingWrote", spec := "fnStrReadsBackWhatQuotingWrote", make := .lifted ["publicsums"], apart := false }
def FnStrReadsBackWhatQuotingWroteSaid : Prop := fnStrReadsBackWhatQuotingWroteRow.holds Trym.pinned (OpenSpec.ofChange fnStrReadsBackWhatQuotingWroteSpec)

/-- ITS FALSE NEIGHBOUR: 'it returns false'. Refute it at one input. -/
def fnStrReadsBackWhatQuotingWroteWrong : ChangeSpec := { name := "fnStrReadsBackWhatQuotingWrote", fn := fun _ => fun
  | [d1, d2] => { results := [.lit (.bool false)], args := [d1, d2] }
  | _ => none }
def FnStrReadsBackWhatQuotingWroteWrongFalsely : Prop := fnStrReadsBackWhatQuotingWroteRow.holds Trym.pinned (OpenSpec.ofChange fnStrReadsBackWhatQuotingWroteWrong)

end Rows
end Go.Proofs.Qxb6601466aMods
