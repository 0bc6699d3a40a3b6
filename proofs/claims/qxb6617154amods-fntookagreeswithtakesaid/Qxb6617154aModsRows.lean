/-
  No cell of these rows narrows 'for every input' (looked for: loops, veiled, ifaces, maps, wideKeys, modest, calm, conditions, laid).
  DERIVED. THE GIVEN ROWS OF THIS SEAT. 4 by the template 'for every input the law returns true; each argument reads behind the call as it read before'; 0 by the template 'total and deterministic' (their statements: Qxb6617154aModsTotals.lean).
  GIVEN WITH THE SEED: the statements are not yours to turn. If you find one false, say at which input.
  Laid BY PROGRAM, IN A SANDBOX (cutbox-rows.mjs): the forced cells as the released guide's own fill.sh prints them over the translation a63b7fc862cfc21b… (all of the seat's roots in one cut). By AI agents, Wed Nov 11 2026. No macro, syntax, notation, axiom, sorry.
-/
import Derived.Test.Qxb6617154aModsChecked
import GoSem.Claim
import GoSem.ClaimJoined
import GoSem.ClaimMapViews
import Derived.JoinedTies
import Derived.KernelRfl
namespace Go.Proofs.Qxb6617154aMods
/- THE CELL 'sum', in the pinned program and in every row, IS THE sha256 OF THE DUMP (.gsa) THAT Qxb6617154aModsProg.lean LOADS. Nothing in Lean hashes anything: it is a label: what it is worth is what the hold of that sum in a sandbox is worth. -/
noncomputable def Trym.pinned : Pinned := { name := "qxb6617154amods", sum := "a63b7fc862cfc21b7d5a65a1eace46657dc877d08b9b911473cf58750e99d78f", checked := Trym.checked }
namespace Rows
def none {H : Type} : Left H := { results := [], args := [] }

/-- 'zzlaws_pkg_db_b1.FnSplitNameCharacterisedAndJoins': WHATEVER THE INPUT: true; the input reads as it did. -/
def fnSplitNameCharacterisedAndJoinsSpec : ChangeSpec := { name := "fnSplitNameCharacterisedAndJoins", fn := fun _ => fun
  | [d1, d2] => { results := [.lit (.bool true)], args := [d1, d2] }
  | _ => none }
def fnSplitNameCharacterisedAndJoinsRow : OpenClaim := { program := "qxb6617154amods", sum := "a63b7fc862cfc21b7d5a65a1eace46657dc877d08b9b911473cf58750e99d78f", func := "example.com/blockmere/blockmere/zzlaws_pkg_db_b1.FnSplitNameCharacterisedAndJoins", spec := "fnSplitNameCharacterisedAndJoins", make := .lifted ["publicsums"], apart := false }
def FnSplitNameCharacterisedAndJoinsSaid : Prop := fnSplitNameCharacterisedAndJoinsRow.holds Trym.pinned (OpenSpec.ofChange fnSplitNameCharacterisedAndJoinsSpec)

/-- ITS FALSE NEIGHBOUR: 'it returns false'. Refute it at one input. -/
def fnSplitNameCharacterisedAndJoinsWrong : ChangeSpec := { name := "fnSplitNameCharacterisedAndJoins", fn := fun _ => fun
  | [d1, d2] => { results := [.lit (.bool false)], args := [d1, d2] }
  | _ => none }
def FnSplitNameCharacterisedAndJoinsWrongFalsely : Prop := fnSplitNameCharacterisedAndJoinsRow.holds Trym.pinned (OpenSpec.ofChange fnSplitNameCharacterisedAndJoinsWrong)

/-- 'zzlaws_pkg_db_b1.FnTakeTwiceIsTakeOfTheSum': WHATEVER THE INPUT: true; the input reads as it did. -/
def fnTakeTwiceIsTakeOfTheSumSpec : ChangeSpec := { name := "fnTakeTwiceIsTakeOfTheSum", fn := fun _ => fun
  | [d1, d2, d3, d4] => { results := [.lit (.bool true)], args := [d1, d2, d3, d4] }
  | _ => none }
def fnTakeTwiceIsTakeOfTheSumRow : OpenClaim := { program := "qxb6617154amods", sum := "a63b7fc862cfc21b7d5a65a1eace46657dc877d08b9b911473cf58750e99d78f", func := "example.com/blockmere/blockmere/zzlaws_pkg_db_b1.FnTakeTwiceIsTakeOfTheSum", spec := "fnTakeTwiceIsTakeOfTheSum", make := .lifted ["publicsums"], apart := false }
def FnTakeTwiceIsTakeOfTheSumSaid : Prop := fnTakeTwiceIsTakeOfTheSumRow.holds Trym.pinned (OpenSpec.ofChange fnTakeTwiceIsTakeOfTheSumSpec)

/-- ITS FALSE NEIGHBOUR: 'it returns false'. Refute it at one input. -/
def fnTakeTwiceIsTakeOfTheSumWrong : ChangeSpec := { name := "fnTakeTwiceIsTakeOfTheSum", fn := fun _ => fun
  | [d1, d2, d3, d4] => { results := [.lit (.bool false)], args := [d1, d2, d3, d4] }
  | _ => none }
def FnTakeTwiceIsTakeOfTheSumWrongFalsely : Prop := fnTakeTwiceIsTakeOfTheSumRow.holds Trym.pinned (OpenSpec.ofChange fnTakeTwiceIsTakeOfTheSumWrong)

/-- 'zzlaws_pkg_db_b1.FnTookAgreesWithTake': WHATEVER THE INPUT: true; the input reads as it did. -/
def fnTookAgreesWithTakeSpec : ChangeSpec := { name := "fnTookAgreesWithTake", fn := fun _ => fun
  | [d1, d2, d3, d4] => { results := [.lit (.bool true)], args := [d1, d2, d3, d4] }
  | _ => none }
def fnTookAgreesWithTakeRow : OpenClaim := { program := "qxb6617154amods", sum := "a63b7fc862cfc21b7d5a65a1eace46657dc877d08b9b911473cf58750e99d78f", func := "example.com/blockmere/blockmere/zzlaws_pkg_db_b1.FnTookAgreesWithTake", spec := "fnTookAgreesWithTake", make := .lifted ["publicsums"], apart := false }
def FnTookAgreesWithTakeSaid : Prop := fnTookAgreesWithTakeRow.holds Trym.pinned (OpenSpec.ofChange fnTookAgreesWithTakeSpec)

/-- ITS FALSE NEIGHBOUR: 'it returns false'. Refute it at one input. -/
def fnTookAgreesWithTakeWrong : ChangeSpec := { name := "fnTookAgreesWithTake", fn := fun _ => fun
  | [d1, d2, d3, d4] => { results := [.lit (.bool false)], args := [d1, d2, d3, d4] }
  | _ => none }
def FnTookAgreesWithTakeWrongFalsely : Prop := fnTookAgreesWithTakeRow.holds Trym.pinned (OpenSpec.ofChange fnTookAgreesWithTakeWrong)

/-- 'zzlaws_pkg_db_b1.FnSplitNamePeelsEveryPart': WHATEVER THE INPUT: true; the input reads as it did. -/
def fnSplitNamePeelsEveryPartSpec : ChangeSpec := { name := "fnSplitNamePeelsEveryPart", fn := fun _ => fun
  | [d] => { results := [.lit (.bool true)], args := [d] }
  | _ => none }
def fnSplitNamePeelsEveryPartRow : OpenClaim := { program := "qxb6617154amods", sum := "a63b7fc862cfc21b7d5a65a1eace46657dc877d08b9b911473cf58750e99d78f", func := "example.com/blockmere/blockmere/zzlaws_pkg_db_b1.FnSplitNamePeelsEveryPart", spec := "fnSplitNamePeelsEveryPart", make := .lifted ["publicsums"], apart := false }
def FnSplitNamePeelsEveryPartSaid : Prop := fnSplitNamePeelsEveryPartRow.holds Trym.pinned (OpenSpec.ofChange fnSplitNamePeelsEveryPartSpec)

/-- ITS FALSE NEIGHBOUR: 'it returns false'. Refute it at one input. -/
def fnSplitNamePeelsEveryPartWrong : ChangeSpec := { name := "fnSplitNamePeelsEveryPart", fn := fun _ => fun
  | [d] => { results := [.lit (.bool false)], args := [d] }
  | _ => none }
def FnSplitNamePeelsEveryPartWrongFalsely : Prop := fnSplitNamePeelsEveryPartRow.holds Trym.pinned (OpenSpec.ofChange fnSplitNamePeelsEveryPartWrong)

end Rows
end Go.Proofs.Qxb6617154aMods
