/-
  No cell of these rows narrows 'for every input' (looked for: loops, veiled, ifaces, maps, wideKeys, modest, calm, conditions, laid).
  DERIVED. THE GIVEN ROWS OF THIS SEAT. 6 by the template 'for every input the law returns true; each argument reads behind the call as it read before'; 0 by the template 'total and deterministic' (their statements: Qxb6601977aModsTotals.lean).
  GIVEN WITH THE SEED: the statements are not yours to turn. If you find one false, say at which input.
  Laid BY PROGRAM, IN A SANDBOX (cutbox-rows.mjs): the forced cells as the released guide's own fill.sh prints them over the translation 8832cfea8e05c708… (all of the seat's roots in one cut). By AI agents, Wed Nov 11 2026. No macro, syntax, notation, axiom, sorry.
-/
import Derived.Test.Qxb6601977aModsChecked
import GoSem.Claim
import GoSem.ClaimJoined
import GoSem.ClaimMapViews
import Derived.JoinedTies
import Derived.KernelRfl
namespace Go.Proofs.Qxb6601977aMods
/- THE CELL 'sum', in the pinned program and in every row, IS THE sha256 OF THE DUMP (.gsa) THAT Qxb6601977aModsProg.lean LOADS. Nothing in Lean hashes anything: it is a label: what it is worth is what the hold of that sum in a sandbox is worth. -/
noncomputable def Trym.pinned : Pinned := { name := "qxb6601977amods", sum := "8832cfea8e05c708b8c5d982e16c0adb077c5f5995e4de959ee21b920db1823d", checked := Trym.checked }
namespace Rows
def none {H : Type} : Left H := { results := [], args := [] }

/-- 'zzlaws_root_b1.FnEncodeBase58MatchesRepeatedDivision': WHATEVER THE INPUT: true; the input reads as it did. -/
def fnEncodeBase58MatchesRepeatedDivisionSpec : ChangeSpec := { name := "fnEncodeBase58MatchesRepeatedDivision", fn := fun _ => fun
  | [d] => { results := [.lit (.bool true)], args := [d] }
  | _ => none }
def fnEncodeBase58MatchesRepeatedDivisionRow : OpenClaim := { program := "qxb6601977amods", sum := "8832cfea8e05c708b8c5d982e16c0adb077c5f5995e4de959ee21b920db1823d", func := "example.com/sealstone/sealstone/zzlaws_root_b1.FnEncodeBase58MatchesRepeatedDivision", spec := "fnEncodeBase58MatchesRepeatedDivision", make := .lifted ["publicsums"], apart := false }
def FnEncodeBase58MatchesRepeatedDivisionSaid : Prop := fnEncodeBase58MatchesRepeatedDivisionRow.holds Trym.pinned (OpenSpec.ofChange fnEncodeBase58MatchesRepeatedDivisionSpec)

/-- ITS FALSE NEIGHBOUR: 'it returns false'. Refute it at one input. -/
def fnEncodeBase58MatchesRepeatedDivisionWrong : ChangeSpec := { name := "fnEncodeBase58MatchesRepeatedDivision", fn := fun _ => fun
  | [d] => { results := [.lit (.bool false)], args := [d] }
  | _ => none }
def FnEncodeBase58MatchesRepeatedDivisionWrongFalsely : Prop := fnEncodeBase58MatchesRepeatedDivisionRow.holds Trym.pinned (OpenSpec.ofChange fnEncodeBase58MatchesRepeatedDivisionWrong)

/-- 'zzlaws_root_b1.FnEncodeBase58KeepsOrder': WHATEVER THE INPUT: true; the input reads as it did. -/
def fnEncodeBase58KeepsOrderSpec : ChangeSpec := { name := "fnEncodeBase58KeepsOrder", fn := fun _ => fun
  | [d1, d2] => { results := [.lit (.bool true)], args := [d1, d2] }
  | _ => none }
def fnEncodeBase58KeepsOrderRow : OpenClaim := { program := "qxb6601977amods", sum := "8832cfea8e05c708b8c5d982e16c0adb077c5f5995e4de959ee21b920db1823d", func := "example.com/sealstone/sealstone/zzlaws_root_b1.FnEncodeBase58KeepsOrder", spec := "fnEncodeBase58KeepsOrder", make := .lifted ["publicsums"], apart := false }
def FnEncodeBase58KeepsOrderSaid : Prop := fnEncodeBase58KeepsOrderRow.holds Trym.pinned (OpenSpec.ofChange fnEncodeBase58KeepsOrderSpec)

/-- ITS FALSE NEIGHBOUR: 'it returns false'. Refute it at one input. -/
def fnEncodeBase58KeepsOrderWrong : ChangeSpec := { name := "fnEncodeBase58KeepsOrder", fn := fun _ => fun
  | [d1, d2] => { results := [.lit (.bool false)], args := [d1, d2] }
  | _ => none }
def FnEncodeBase58KeepsOrderWrongFalsely : Prop := fnEncodeBase58KeepsOrderRow.holds Trym.pinned (OpenSpec.ofChange fnEncodeBase58KeepsOrderWrong)

/-- 'zzlaws_root_b1.FnDecodeBase58MatchesRepeatedDivision': WHATEVER THE INPUT: true; the input reads as it did. -/
def fnDecodeBase58MatchesRepeatedDivisionSpec : ChangeSpec := { name := "fnDecodeBase58MatchesRepeatedDivision", fn := fun _ => fun
  | [d] => { results := [.lit (.bool true)], args := [d] }
  | _ => none }
def fnDecodeBase58MatchesRepeatedDivisionRow : OpenClaim := { program := "qxb6601977amods", sum := "8832cfea8e05c708b8c5d982e16c0adb077c5f5995e4de959ee21b920db1823d", func := "example.com/sealstone/sealstone/zzlaws_root_b1.FnDecodeBase58MatchesRepeatedDivision", spec := "fnDecodeBase58MatchesRepeatedDivision", inPlace := ["internal/bytealg.IndexByteString"], make := .lifted ["publicsums"], apart := false }
def FnDecodeBase58MatchesRepeatedDivisionSaid : Prop := fnDecodeBase58MatchesRepeatedDivisionRow.holds Trym.pinned (OpenSpec.ofChange fnDecodeBase58MatchesRepeatedDivisionSpec)

/-- ITS FALSE NEIGHBOUR: 'it returns false'. Refute it at one input. -/
def fnDecodeBase58MatchesRepeatedDivisionWrong : ChangeSpec := { name := "fnDecodeBase58MatchesRepeatedDivision", fn := fun _ => fun
  | [d] => { results := [.lit (.bool false)], args := [d] }
  | _ => none }
def FnDecodeBase58MatchesRepeatedDivisionWrongFalsely : Prop := fnDecodeBase58MatchesRepeatedDivisionRow.holds Trym.pinned (OpenSpec.ofChange fnDecodeBase58MatchesRepeatedDivisionWrong)

/-- 'zzlaws_root_b1.FnDecodeBase58InvertsEncode': WHATEVER THE INPUT: true; the input reads as it did. -/
def fnDecodeBase58InvertsEncodeSpec : ChangeSpec := { name := "fnDecodeBase58InvertsEncode", fn := fun _ => fun
  | [d] => { results := [.lit (.bool true)], args := [d] }
  | _ => none }
def fnDecodeBase58InvertsEncodeRow : OpenClaim := { program := "qxb6601977amods", sum := "8832cfea8e05c708b8c5d982e16c0adb077c5f5995e4de959ee21b920db1823d", func := "example.com/sealstone/sealstone/zzlaws_root_b1.FnDecodeBase58InvertsEncode", spec := "fnDecodeBase58InvertsEncode", inPlace := ["internal/bytealg.IndexByteString"], make := .lifted ["publicsums"], apart := false }
def FnDecodeBase58InvertsEncodeSaid : Prop := fnDecodeBase58InvertsEncodeRow.holds Trym.pinned (OpenSpec.ofChange fnDecodeBase58InvertsEncodeSpec)

/-- ITS FALSE NEIGHBOUR: 'it returns false'. Refute it at one input. -/
def fnDecodeBase58InvertsEncodeWrong : ChangeSpec := { name := "fnDecodeBase58InvertsEncode", fn := fun _ => fun
  | [d] => { results := [.lit (.bool false)], args := [d] }
  | _ => none }
def FnDecodeBase58InvertsEncodeWrongFalsely : Prop := fnDecodeBase58InvertsEncodeRow.holds Trym.pinned (OpenSpec.ofChange fnDecodeBase58InvertsEncodeWrong)

/-- 'zzlaws_root_b1.FnEncodeBase58InvertsDecode': WHATEVER THE INPUT: true; the input reads as it did. -/
def fnEncodeBase58InvertsDecodeSpec : ChangeSpec := { name := "fnEncodeBase58InvertsDecode", fn := fun _ => fun
  | [d] => { results := [.lit (.bool true)], args := [d] }
  | _ => none }
def fnEncodeBase58InvertsDecodeRow : OpenClaim := { program := "qxb6601977amods", sum := "8832cfea8e05c708b8c5d982e16c0adb077c5f5995e4de959ee21b920db1823d", func := "example.com/sealstone/sealstone/zzlaws_root_b1.FnEncodeBase58InvertsDecode", spec := "fnEncodeBase58InvertsDecode", inPlace := ["internal/bytealg.IndexByteString"], make := .lifted ["publicsums"], apart := false }
def FnEncodeBase58InvertsDecodeSaid : Prop := fnEncodeBase58InvertsDecodeRow.holds Trym.pinned (OpenSpec.ofChange fnEncodeBase58InvertsDecodeSpec)

/-- ITS FALSE NEIGHBOUR: 'it returns false'. Refute it at one input. -/
def fnEncodeBase58InvertsDecodeWrong : ChangeSpec := { name := "fnEncodeBase58InvertsDecode", fn := fun _ => fun
  | [d] => { results := [.lit (.bool false)], args := [d] }
  | _ => none }
def FnEncodeBase58InvertsDecodeWrongFalsely : Prop := fnEncodeBase58InvertsDecodeRow.holds Trym.pinned (OpenSpec.ofChange fnEncodeBase58InvertsDecodeWrong)

/-- 'zzlaws_root_b1.FnDecodeBase58KeepsOrder': WHATEVER THE INPUT: true; the input reads as it did. -/
def fnDecodeBase58KeepsOrderSpec : ChangeSpec := { name := "fnDecodeBase58KeepsOrder", fn := fun _ => fun
  | [d1, d2] => { results := [.lit (.bool true)], args := [d1, d2] }
  | _ => none }
def fnDecodeBase58KeepsOrderRow : OpenClaim := { program := "qxb6601977amods", sum := "8832cfea8e05c708b8c5d982e16c0adb077c5f5995e4de959ee21b920db1823d", func := "example.com/sealstone/sealstone/zzlaws_root_b1.FnDecodeBase58KeepsOrder", spec := "fnDecodeBase58KeepsOrder", inPlace := ["internal/bytealg.IndexByteString"], make := .lifted ["publicsums"], apart := false }
def FnDecodeBase58KeepsOrderSaid : Prop := fnDecodeBase58KeepsOrderRow.holds Trym.pinned (OpenSpec.ofChange fnDecodeBase58KeepsOrderSpec)

/-- ITS FALSE NEIGHBOUR: 'it returns false'. Refute it at one input. -/
def fnDecodeBase58KeepsOrderWrong : ChangeSpec := { name := "fnDecodeBase58KeepsOrder", fn := fun _ => fun
  | [d1, d2] => { results := [.lit (.bool false)], args := [d1, d2] }
  | _ => none }
def FnDecodeBase58KeepsOrderWrongFalsely : Prop := fnDecodeBase58KeepsOrderRow.holds Trym.pinned (OpenSpec.ofChange fnDecodeBase58KeepsOrderWrong)

end Rows
end Go.Proofs.Qxb6601977aMods
