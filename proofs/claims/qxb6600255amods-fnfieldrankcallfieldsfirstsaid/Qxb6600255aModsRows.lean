/-
  No cell of these rows narrows 'for every input' (looked for: loops, veiled, ifaces, maps, wideKeys, modest, calm, conditions, laid).
  DERIVED. THE GIVEN ROWS OF THIS SEAT. 5 by the template 'for every input the law returns true; each argument reads behind the call as it read before'; 0 by the template 'total and deterministic' (their statements: Qxb6600255aModsTotals.lean).
  GIVEN WITH THE SEED: the statements are not yours to turn. If you find one false, say at which input.
  Laid BY PROGRAM, IN A SANDBOX (cutbox-rows.mjs): the forced cells as the released guide's own fill.sh prints them over the translation a365eff4bf06cf45… (all of the seat's roots in one cut). By AI agents, Wed Nov 11 2026. No macro, syntax, notation, axiom, sorry.
-/
import Derived.Test.Qxb6600255aModsChecked
import GoSem.Claim
import GoSem.ClaimJoined
import GoSem.ClaimMapViews
import Derived.JoinedTies
import Derived.KernelRfl
namespace Go.Proofs.Qxb6600255aMods
/- THE CELL 'sum', in the pinned program and in every row, IS THE sha256 OF THE DUMP (.gsa) THAT Qxb6600255aModsProg.lean LOADS. Nothing in Lean hashes anything: it is a label: what it is worth is what the hold of that sum in a sandbox is worth. -/
noncomputable def Trym.pinned : Pinned := { name := "qxb6600255amods", sum := "a365eff4bf06cf45d3f7f798f4b2fbbdffb048ae3febf2b4b0bee8c8628fe217", checked := Trym.checked }
namespace Rows
def none {H : Type} : Left H := { results := [], args := [] }

/-- 'zzlaws_root_b1.FnPercentEncodeIsTheCanonicalEscape': WHATEVER THE INPUT: true; the input reads as it did. -/
def fnPercentEncodeIsTheCanonicalEscapeSpec : ChangeSpec := { name := "fnPercentEncodeIsTheCanonicalEscape", fn := fun _ => fun
  | [d] => { results := [.lit (.bool true)], args := [d] }
  | _ => none }
def fnPercentEncodeIsTheCanonicalEscapeRow : OpenClaim := { program := "qxb6600255amods", sum := "a365eff4bf06cf45d3f7f798f4b2fbbdffb048ae3febf2b4b0bee8c8628fe217", func := "example.com/trailwire/trailwire/zzlaws_root_b1.FnPercentEncodeIsTheCanonicalEscape", spec := "fnPercentEncodeIsTheCanonicalEscape", make := .lifted ["publicsums"], apart := false }
def FnPercentEncodeIsTheCanonicalEscapeSaid : Prop := fnPercentEncodeIsTheCanonicalEscapeRow.holds Trym.pinned (OpenSpec.ofChange fnPercentEncodeIsTheCanonicalEscapeSpec)

/-- ITS FALSE NEIGHBOUR: 'it returns false'. Refute it at one input. -/
def fnPercentEncodeIsTheCanonicalEscapeWrong : ChangeSpec := { name := "fnPercentEncodeIsTheCanonicalEscape", fn := fun _ => fun
  | [d] => { results := [.lit (.bool false)], args := [d] }
  | _ => none }
def FnPercentEncodeIsTheCanonicalEscapeWrongFalsely : Prop := fnPercentEncodeIsTheCanonicalEscapeRow.holds Trym.pinned (OpenSpec.ofChange fnPercentEncodeIsTheCanonicalEscapeWrong)

/-- 'zzlaws_root_b1.FnPercentEncodeDistributesOverConcat': WHATEVER THE INPUT: true; the input reads as it did. -/
def fnPercentEncodeDistributesOverConcatSpec : ChangeSpec := { name := "fnPercentEncodeDistributesOverConcat", fn := fun _ => fun
  | [d1, d2] => { results := [.lit (.bool true)], args := [d1, d2] }
  | _ => none }
def fnPercentEncodeDistributesOverConcatRow : OpenClaim := { program := "qxb6600255amods", sum := "a365eff4bf06cf45d3f7f798f4b2fbbdffb048ae3febf2b4b0bee8c8628fe217", func := "example.com/trailwire/trailwire/zzlaws_root_b1.FnPercentEncodeDistributesOverConcat", spec := "fnPercentEncodeDistributesOverConcat", make := .lifted ["publicsums"], apart := false }
def FnPercentEncodeDistributesOverConcatSaid : Prop := fnPercentEncodeDistributesOverConcatRow.holds Trym.pinned (OpenSpec.ofChange fnPercentEncodeDistributesOverConcatSpec)

/-- ITS FALSE NEIGHBOUR: 'it returns false'. Refute it at one input. -/
def fnPercentEncodeDistributesOverConcatWrong : ChangeSpec := { name := "fnPercentEncodeDistributesOverConcat", fn := fun _ => fun
  | [d1, d2] => { results := [.lit (.bool false)], args := [d1, d2] }
  | _ => none }
def FnPercentEncodeDistributesOverConcatWrongFalsely : Prop := fnPercentEncodeDistributesOverConcatRow.holds Trym.pinned (OpenSpec.ofChange fnPercentEncodeDistributesOverConcatWrong)

/-- 'zzlaws_root_b1.FnPercentEncodeIsInjective': WHATEVER THE INPUT: true; the input reads as it did. -/
def fnPercentEncodeIsInjectiveSpec : ChangeSpec := { name := "fnPercentEncodeIsInjective", fn := fun _ => fun
  | [d1, d2] => { results := [.lit (.bool true)], args := [d1, d2] }
  | _ => none }
def fnPercentEncodeIsInjectiveRow : OpenClaim := { program := "qxb6600255amods", sum := "a365eff4bf06cf45d3f7f798f4b2fbbdffb048ae3febf2b4b0bee8c8628fe217", func := "example.com/trailwire/trailwire/zzlaws_root_b1.FnPercentEncodeIsInjective", spec := "fnPercentEncodeIsInjective", make := .lifted ["publicsums"], apart := false }
def FnPercentEncodeIsInjectiveSaid : Prop := fnPercentEncodeIsInjectiveRow.holds Trym.pinned (OpenSpec.ofChange fnPercentEncodeIsInjectiveSpec)

/-- ITS FALSE NEIGHBOUR: 'it returns false'. Refute it at one input. -/
def fnPercentEncodeIsInjectiveWrong : ChangeSpec := { name := "fnPercentEncodeIsInjective", fn := fun _ => fun
  | [d1, d2] => { results := [.lit (.bool false)], args := [d1, d2] }
  | _ => none }
def FnPercentEncodeIsInjectiveWrongFalsely : Prop := fnPercentEncodeIsInjectiveRow.holds Trym.pinned (OpenSpec.ofChange fnPercentEncodeIsInjectiveWrong)

/-- 'zzlaws_root_b1.FnFieldRankDeadlineFirst': WHATEVER THE INPUT: true; the input reads as it did. -/
def fnFieldRankDeadlineFirstSpec : ChangeSpec := { name := "fnFieldRankDeadlineFirst", fn := fun _ => fun
  | [d] => { results := [.lit (.bool true)], args := [d] }
  | _ => none }
def fnFieldRankDeadlineFirstRow : OpenClaim := { program := "qxb6600255amods", sum := "a365eff4bf06cf45d3f7f798f4b2fbbdffb048ae3febf2b4b0bee8c8628fe217", func := "example.com/trailwire/trailwire/zzlaws_root_b1.FnFieldRankDeadlineFirst", spec := "fnFieldRankDeadlineFirst", make := .lifted ["publicsums"], apart := false }
def FnFieldRankDeadlineFirstSaid : Prop := fnFieldRankDeadlineFirstRow.holds Trym.pinned (OpenSpec.ofChange fnFieldRankDeadlineFirstSpec)

/-- ITS FALSE NEIGHBOUR: 'it returns false'. Refute it at one input. -/
def fnFieldRankDeadlineFirstWrong : ChangeSpec := { name := "fnFieldRankDeadlineFirst", fn := fun _ => fun
  | [d] => { results := [.lit (.bool false)], args := [d] }
  | _ => none }
def FnFieldRankDeadlineFirstWrongFalsely : Prop := fnFieldRankDeadlineFirstRow.holds Trym.pinned (OpenSpec.ofChange fnFieldRankDeadlineFirstWrong)

/-- 'zzlaws_root_b1.FnFieldRankCallFieldsFirst': WHATEVER THE INPUT: true; the input reads as it did. -/
def fnFieldRankCallFieldsFirstSpec : ChangeSpec := { name := "fnFieldRankCallFieldsFirst", fn := fun _ => fun
  | [d1, d2] => { results := [.lit (.bool true)], args := [d1, d2] }
  | _ => none }
def fnFieldRankCallFieldsFirstRow : OpenClaim := { program := "qxb6600255amods", sum := "a365eff4bf06cf45d3f7f798f4b2fbbdffb048ae3febf2b4b0bee8c8628fe217", func := "example.com/trailwire/trailwire/zzlaws_root_b1.FnFieldRankCallFieldsFirst", spec := "fnFieldRankCallFieldsFirst", make := .lifted ["publicsums"], apart := false }
def FnFieldRankCallFieldsFirstSaid : Prop := fnFieldRankCallFieldsFirstRow.holds Trym.pinned (OpenSpec.ofChange fnFieldRankCallFieldsFirstSpec)

/-- ITS FALSE NEIGHBOUR: 'it returns false'. Refute it at one input. -/
def fnFieldRankCallFieldsFirstWrong : ChangeSpec := { name := "fnFieldRankCallFieldsFirst", fn := fun _ => fun
  | [d1, d2] => { results := [.lit (.bool false)], args := [d1, d2] }
  | _ => none }
def FnFieldRankCallFieldsFirstWrongFalsely : Prop := fnFieldRankCallFieldsFirstRow.holds Trym.pinned (OpenSpec.ofChange fnFieldRankCallFieldsFirstWrong)

end Rows
end Go.Proofs.Qxb6600255aMods
