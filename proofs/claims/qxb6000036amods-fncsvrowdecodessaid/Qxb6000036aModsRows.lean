/-
  No cell of these rows narrows 'for every input' (looked for: loops, veiled, ifaces, maps, wideKeys, modest, calm, conditions, laid).
  DERIVED. THE GIVEN ROWS OF THIS SEAT. 5 by the template 'for every input the law returns true; each argument reads behind the call as it read before'; 0 by the template 'total and deterministic' (their statements: Qxb6000036aModsTotals.lean).
  GIVEN WITH THE SEED: the statements are not yours to turn. If you find one false, say at which input.
  Laid BY PROGRAM, IN A SANDBOX (cutbox-rows.mjs): the forced cells as the released guide's own fill.sh prints them over the translation bde60466688fd96f… (all of the seat's roots in one cut). By AI agents, Wed Nov 11 2026. No macro, syntax, notation, axiom, sorry.
-/
import Derived.Test.Qxb6000036aModsChecked
import GoSem.Claim
import GoSem.ClaimJoined
import GoSem.ClaimMapViews
import Derived.JoinedTies
import Derived.KernelRfl
namespace Go.Proofs.Qxb6000036aMods
/- THE CELL 'sum', in the pinned program and in every row, IS THE sha256 OF THE DUMP (.gsa) THAT Qxb6000036aModsProg.lean LOADS. Nothing in Lean hashes anything: it is a label: what it is worth is what the hold of that sum in a sandbox is worth. -/
noncomputable def Trym.pinned : Pinned := { name := "qxb6000036amods", sum := "bde60466688fd96fd1c9e0c152c502c255e062ff89bbd911fa456f4311e0c34a", checked := Trym.checked }
namespace Rows
def none {H : Type} : Left H := { results := [], args := [] }

/-- 'zzlaws_report_b1.FnCsvFieldExact': WHATEVER THE INPUT: true; the input reads as it did. -/
def fnCsvFieldExactSpec : ChangeSpec := { name := "fnCsvFieldExact", fn := fun _ => fun
  | [d1, d2] => { results := [.lit (.bool true)], args := [d1, d2] }
  | _ => none }
def fnCsvFieldExactRow : OpenClaim := { program := "qxb6000036amods", sum := "bde60466688fd96fd1c9e0c152c502c255e062ff89bbd911fa456f4311e0c34a", func := "example.com/lockweight/lockweight/zzlaws_report_b1.FnCsvFieldExact", spec := "fnCsvFieldExact", make := .lifted ["publicsums"], apart := false }
def FnCsvFieldExactSaid : Prop := fnCsvFieldExactRow.holds Trym.pinned (OpenSpec.ofChange fnCsvFieldExactSpec)

/-- ITS FALSE NEIGHBOUR: 'it returns false'. Refute it at one input. -/
def fnCsvFieldExactWrong : ChangeSpec := { name := "fnCsvFieldExact", fn := fun _ => fun
  | [d1, d2] => { results := [.lit (.bool false)], args := [d1, d2] }
  | _ => none }
def FnCsvFieldExactWrongFalsely : Prop := fnCsvFieldExactRow.holds Trym.pinned (OpenSpec.ofChange fnCsvFieldExactWrong)

/-- 'zzlaws_report_b1.FnCsvFieldSafe': WHATEVER THE INPUT: true; the input reads as it did. -/
def fnCsvFieldSafeSpec : ChangeSpec := { name := "fnCsvFieldSafe", fn := fun _ => fun
  | [d1, d2] => { results := [.lit (.bool true)], args := [d1, d2] }
  | _ => none }
def fnCsvFieldSafeRow : OpenClaim := { program := "qxb6000036amods", sum := "bde60466688fd96fd1c9e0c152c502c255e062ff89bbd911fa456f4311e0c34a", func := "example.com/lockweight/lockweight/zzlaws_report_b1.FnCsvFieldSafe", spec := "fnCsvFieldSafe", make := .lifted ["publicsums"], apart := false }
def FnCsvFieldSafeSaid : Prop := fnCsvFieldSafeRow.holds Trym.pinned (OpenSpec.ofChange fnCsvFieldSafeSpec)

/-- ITS FALSE NEIGHBOUR: 'it returns false'. Refute it at one input. -/
def fnCsvFieldSafeWrong : ChangeSpec := { name := "fnCsvFieldSafe", fn := fun _ => fun
  | [d1, d2] => { results := [.lit (.bool false)], args := [d1, d2] }
  | _ => none }
def FnCsvFieldSafeWrongFalsely : Prop := fnCsvFieldSafeRow.holds Trym.pinned (OpenSpec.ofChange fnCsvFieldSafeWrong)

/-- 'zzlaws_report_b1.FnCsvRowDecodes': WHATEVER THE INPUT: true; the input reads as it did. -/
def fnCsvRowDecodesSpec : ChangeSpec := { name := "fnCsvRowDecodes", fn := fun _ => fun
  | [d1, d2] => { results := [.lit (.bool true)], args := [d1, d2] }
  | _ => none }
def fnCsvRowDecodesRow : OpenClaim := { program := "qxb6000036amods", sum := "bde60466688fd96fd1c9e0c152c502c255e062ff89bbd911fa456f4311e0c34a", func := "example.com/lockweight/lockweight/zzlaws_report_b1.FnCsvRowDecodes", spec := "fnCsvRowDecodes", make := .lifted ["publicsums"], apart := false }
def FnCsvRowDecodesSaid : Prop := fnCsvRowDecodesRow.holds Trym.pinned (OpenSpec.ofChange fnCsvRowDecodesSpec)

/-- ITS FALSE NEIGHBOUR: 'it returns false'. Refute it at one input. -/
def fnCsvRowDecodesWrong : ChangeSpec := { name := "fnCsvRowDecodes", fn := fun _ => fun
  | [d1, d2] => { results := [.lit (.bool false)], args := [d1, d2] }
  | _ => none }
def FnCsvRowDecodesWrongFalsely : Prop := fnCsvRowDecodesRow.holds Trym.pinned (OpenSpec.ofChange fnCsvRowDecodesWrong)

/-- 'zzlaws_report_b1.FnCsvRowSplits': WHATEVER THE INPUT: true; the input reads as it did. -/
def fnCsvRowSplitsSpec : ChangeSpec := { name := "fnCsvRowSplits", fn := fun _ => fun
  | [d1, d2, d3] => { results := [.lit (.bool true)], args := [d1, d2, d3] }
  | _ => none }
def fnCsvRowSplitsRow : OpenClaim := { program := "qxb6000036amods", sum := "bde60466688fd96fd1c9e0c152c502c255e062ff89bbd911fa456f4311e0c34a", func := "example.com/lockweight/lockweight/zzlaws_report_b1.FnCsvRowSplits", spec := "fnCsvRowSplits", make := .lifted ["publicsums"], apart := false }
def FnCsvRowSplitsSaid : Prop := fnCsvRowSplitsRow.holds Trym.pinned (OpenSpec.ofChange fnCsvRowSplitsSpec)

/-- ITS FALSE NEIGHBOUR: 'it returns false'. Refute it at one input. -/
def fnCsvRowSplitsWrong : ChangeSpec := { name := "fnCsvRowSplits", fn := fun _ => fun
  | [d1, d2, d3] => { results := [.lit (.bool false)], args := [d1, d2, d3] }
  | _ => none }
def FnCsvRowSplitsWrongFalsely : Prop := fnCsvRowSplitsRow.holds Trym.pinned (OpenSpec.ofChange fnCsvRowSplitsWrong)

/-- 'zzlaws_report_b1.FnLineStringAppendValue': WHATEVER THE INPUT: true; the input reads as it did. -/
def fnLineStringAppendValueSpec : ChangeSpec := { name := "fnLineStringAppendValue", fn := fun _ => fun
  | [d1, d2, d3, d4, d5] => { results := [.lit (.bool true)], args := [d1, d2, d3, d4, d5] }
  | _ => none }
def fnLineStringAppendValueRow : OpenClaim := { program := "qxb6000036amods", sum := "bde60466688fd96fd1c9e0c152c502c255e062ff89bbd911fa456f4311e0c34a", func := "example.com/lockweight/lockweight/zzlaws_report_b1.FnLineStringAppendValue", spec := "fnLineStringAppendValue", inPlace := ["internal/abi.NoEscape", "internal/bytealg.MakeNoZero"], make := .lifted ["publicsums"], apart := false }
def FnLineStringAppendValueSaid : Prop := fnLineStringAppendValueRow.holds Trym.pinned (OpenSpec.ofChange fnLineStringAppendValueSpec)

/-- ITS FALSE NEIGHBOUR: 'it returns false'. Refute it at one input. -/
def fnLineStringAppendValueWrong : ChangeSpec := { name := "fnLineStringAppendValue", fn := fun _ => fun
  | [d1, d2, d3, d4, d5] => { results := [.lit (.bool false)], args := [d1, d2, d3, d4, d5] }
  | _ => none }
def FnLineStringAppendValueWrongFalsely : Prop := fnLineStringAppendValueRow.holds Trym.pinned (OpenSpec.ofChange fnLineStringAppendValueWrong)

end Rows
end Go.Proofs.Qxb6000036aMods
