/-
  No cell of these rows narrows 'for every input' (looked for: loops, veiled, ifaces, maps, wideKeys, modest, calm, conditions, laid).
  DERIVED. THE GIVEN ROWS OF THIS SEAT. 4 by the template 'for every input the law returns true; each argument reads behind the call as it read before'; 0 by the template 'total and deterministic' (their statements: Qxb6618564aModsTotals.lean).
  GIVEN WITH THE SEED: the statements are not yours to turn. If you find one false, say at which input.
  Laid BY PROGRAM, IN A SANDBOX (cutbox-rows.mjs): the forced cells as the released guide's own fill.sh prints them over the translation 1a2595565e84a285… (all of the seat's roots in one cut). By AI agents, Wed Nov 11 2026. No macro, syntax, notation, axiom, sorry.
-/
import Derived.Test.Qxb6618564aModsChecked
import GoSem.Claim
import GoSem.ClaimJoined
import GoSem.ClaimMapViews
import Derived.JoinedTies
import Derived.KernelRfl
namespace Go.Proofs.Qxb6618564aMods
/- THE CELL 'sum', in the pinned program and in every row, IS THE sha256 OF THE DUMP (.gsa) THAT Qxb6618564aModsProg.lean LOADS. Nothing in Lean hashes anything: it is a label: what it is worth is what the hold of that sum in a sandbox is worth. -/
noncomputable def Trym.pinned : Pinned := { name := "qxb6618564amods", sum := "1a2595565e84a285b5eca1233afc73fb795f296f40ce3b41e6c7c62b325a7dc9", checked := Trym.checked }
namespace Rows
def none {H : Type} : Left H := { results := [], args := [] }

/-- 'zzlaws_root_b1.FnConfirmationsBesideOfLogFile': WHATEVER THE INPUT: true; the input reads as it did. -/
def fnConfirmationsBesideOfLogFileSpec : ChangeSpec := { name := "fnConfirmationsBesideOfLogFile", fn := fun _ => fun
  | [d] => { results := [.lit (.bool true)], args := [d] }
  | _ => none }
def fnConfirmationsBesideOfLogFileRow : OpenClaim := { program := "qxb6618564amods", sum := "1a2595565e84a285b5eca1233afc73fb795f296f40ce3b41e6c7c62b325a7dc9", func := "example.com/surety/surety/zzlaws_root_b1.FnConfirmationsBesideOfLogFile", spec := "fnConfirmationsBesideOfLogFile", make := .lifted ["publicsums"], apart := false }
def FnConfirmationsBesideOfLogFileSaid : Prop := fnConfirmationsBesideOfLogFileRow.holds Trym.pinned (OpenSpec.ofChange fnConfirmationsBesideOfLogFileSpec)

/-- ITS FALSE NEIGHBOUR: 'it returns false'. Refute it at one input. -/
def fnConfirmationsBesideOfLogFileWrong : ChangeSpec := { name := "fnConfirmationsBesideOfLogFile", fn := fun _ => fun
  | [d] => { results := [.lit (.bool false)], args := [d] }
  | _ => none }
def FnConfirmationsBesideOfLogFileWrongFalsely : Prop := fnConfirmationsBesideOfLogFileRow.holds Trym.pinned (OpenSpec.ofChange fnConfirmationsBesideOfLogFileWrong)

/-- 'zzlaws_root_b1.FnConfirmationsBesideDistinctNotALog': WHATEVER THE INPUT: true; the input reads as it did. -/
def fnConfirmationsBesideDistinctNotALogSpec : ChangeSpec := { name := "fnConfirmationsBesideDistinctNotALog", fn := fun _ => fun
  | [d1, d2] => { results := [.lit (.bool true)], args := [d1, d2] }
  | _ => none }
def fnConfirmationsBesideDistinctNotALogRow : OpenClaim := { program := "qxb6618564amods", sum := "1a2595565e84a285b5eca1233afc73fb795f296f40ce3b41e6c7c62b325a7dc9", func := "example.com/surety/surety/zzlaws_root_b1.FnConfirmationsBesideDistinctNotALog", spec := "fnConfirmationsBesideDistinctNotALog", make := .lifted ["publicsums"], apart := false }
def FnConfirmationsBesideDistinctNotALogSaid : Prop := fnConfirmationsBesideDistinctNotALogRow.holds Trym.pinned (OpenSpec.ofChange fnConfirmationsBesideDistinctNotALogSpec)

/-- ITS FALSE NEIGHBOUR: 'it returns false'. Refute it at one input. -/
def fnConfirmationsBesideDistinctNotALogWrong : ChangeSpec := { name := "fnConfirmationsBesideDistinctNotALog", fn := fun _ => fun
  | [d1, d2] => { results := [.lit (.bool false)], args := [d1, d2] }
  | _ => none }
def FnConfirmationsBesideDistinctNotALogWrongFalsely : Prop := fnConfirmationsBesideDistinctNotALogRow.holds Trym.pinned (OpenSpec.ofChange fnConfirmationsBesideDistinctNotALogWrong)

/-- 'zzlaws_root_b1.FnIsDigitCountBelow': WHATEVER THE INPUT: true; the input reads as it did. -/
def fnIsDigitCountBelowSpec : ChangeSpec := { name := "fnIsDigitCountBelow", fn := fun _ => fun
  | [d] => { results := [.lit (.bool true)], args := [d] }
  | _ => none }
def fnIsDigitCountBelowRow : OpenClaim := { program := "qxb6618564amods", sum := "1a2595565e84a285b5eca1233afc73fb795f296f40ce3b41e6c7c62b325a7dc9", func := "example.com/surety/surety/zzlaws_root_b1.FnIsDigitCountBelow", spec := "fnIsDigitCountBelow", make := .lifted ["publicsums"], apart := false }
def FnIsDigitCountBelowSaid : Prop := fnIsDigitCountBelowRow.holds Trym.pinned (OpenSpec.ofChange fnIsDigitCountBelowSpec)

/-- ITS FALSE NEIGHBOUR: 'it returns false'. Refute it at one input. -/
def fnIsDigitCountBelowWrong : ChangeSpec := { name := "fnIsDigitCountBelow", fn := fun _ => fun
  | [d] => { results := [.lit (.bool false)], args := [d] }
  | _ => none }
def FnIsDigitCountBelowWrongFalsely : Prop := fnIsDigitCountBelowRow.holds Trym.pinned (OpenSpec.ofChange fnIsDigitCountBelowWrong)

/-- 'zzlaws_root_b1.FnIsDigitOneInEveryTenStepChain': WHATEVER THE INPUT: true; the input reads as it did. -/
def fnIsDigitOneInEveryTenStepChainSpec : ChangeSpec := { name := "fnIsDigitOneInEveryTenStepChain", fn := fun _ => fun
  | [d] => { results := [.lit (.bool true)], args := [d] }
  | _ => none }
def fnIsDigitOneInEveryTenStepChainRow : OpenClaim := { program := "qxb6618564amods", sum := "1a2595565e84a285b5eca1233afc73fb795f296f40ce3b41e6c7c62b325a7dc9", func := "example.com/surety/surety/zzlaws_root_b1.FnIsDigitOneInEveryTenStepChain", spec := "fnIsDigitOneInEveryTenStepChain", make := .lifted ["publicsums"], apart := false }
def FnIsDigitOneInEveryTenStepChainSaid : Prop := fnIsDigitOneInEveryTenStepChainRow.holds Trym.pinned (OpenSpec.ofChange fnIsDigitOneInEveryTenStepChainSpec)

/-- ITS FALSE NEIGHBOUR: 'it returns false'. Refute it at one input. -/
def fnIsDigitOneInEveryTenStepChainWrong : ChangeSpec := { name := "fnIsDigitOneInEveryTenStepChain", fn := fun _ => fun
  | [d] => { results := [.lit (.bool false)], args := [d] }
  | _ => none }
def FnIsDigitOneInEveryTenStepChainWrongFalsely : Prop := fnIsDigitOneInEveryTenStepChainRow.holds Trym.pinned (OpenSpec.ofChange fnIsDigitOneInEveryTenStepChainWrong)

end Rows
end Go.Proofs.Qxb6618564aMods
