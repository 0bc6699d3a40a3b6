/-
  No cell of these rows narrows 'for every input' (looked for: loops, veiled, ifaces, maps, wideKeys, modest, calm, conditions, laid).
  DERIVED. THE GIVEN ROWS OF THIS SEAT. 2 by the template 'for every input the law returns true; each argument reads behind the call as it read before'; 0 by the template 'total and deterministic' (their statements: Qxb6617894aModsTotals.lean).
  GIVEN WITH THE SEED: the statements are not yours to turn. If you find one false, say at which input.
  Laid BY PROGRAM, IN A SANDBOX (cutbox-rows.mjs): the forced cells as the released guide's own fill.sh prints them over the translation 67238240dbfbe177… (all of the seat's roots in one cut). By AI agents, Wed Nov 11 2026. No macro, syntax, notation, axiom, sorry.
-/
import Derived.Test.Qxb6617894aModsChecked
import GoSem.Claim
import GoSem.ClaimJoined
import GoSem.ClaimMapViews
import Derived.JoinedTies
import Derived.KernelRfl
namespace Go.Proofs.Qxb6617894aMods
/- THE CELL 'sum', in the pinned program and in every row, IS THE sha256 OF THE DUMP (.gsa) THAT Qxb6617894aModsProg.lean LOADS. Nothing in Lean hashes anything: it is a label: what it is worth is what the hold of that sum in a sandbox is worth. -/
noncomputable def Trym.pinned : Pinned := { name := "qxb6617894amods", sum := "67238240dbfbe1771be2f6ef45b3e0835cf51a5f8e3c8c0d0aa11e94dc1c6e33", checked := Trym.checked }
namespace Rows
def none {H : Type} : Left H := { results := [], args := [] }

/-- 'zzlaws_root_b1.FnAsksOfIsLastCount': WHATEVER THE INPUT: true; the input reads as it did. -/
def fnAsksOfIsLastCountSpec : ChangeSpec := { name := "fnAsksOfIsLastCount", fn := fun _ => fun
  | [d] => { results := [.lit (.bool true)], args := [d] }
  | _ => none }
def fnAsksOfIsLastCountRow : OpenClaim := { program := "qxb6617894amods", sum := "67238240dbfbe1771be2f6ef45b3e0835cf51a5f8e3c8c0d0aa11e94dc1c6e33", func := "example.com/leadstone/leadstone/zzlaws_root_b1.FnAsksOfIsLastCount", spec := "fnAsksOfIsLastCount", make := .lifted ["publicsums"], apart := false }
def FnAsksOfIsLastCountSaid : Prop := fnAsksOfIsLastCountRow.holds Trym.pinned (OpenSpec.ofChange fnAsksOfIsLastCountSpec)

/-- ITS FALSE NEIGHBOUR: 'it returns false'. Refute it at one input. -/
def fnAsksOfIsLastCountWrong : ChangeSpec := { name := "fnAsksOfIsLastCount", fn := fun _ => fun
  | [d] => { results := [.lit (.bool false)], args := [d] }
  | _ => none }
def FnAsksOfIsLastCountWrongFalsely : Prop := fnAsksOfIsLastCountRow.holds Trym.pinned (OpenSpec.ofChange fnAsksOfIsLastCountWrong)

/-- 'zzlaws_root_b1.FnAsksOfSplitRightWins': WHATEVER THE INPUT: true; the input reads as it did. -/
def fnAsksOfSplitRightWinsSpec : ChangeSpec := { name := "fnAsksOfSplitRightWins", fn := fun _ => fun
  | [d1, d2] => { results := [.lit (.bool true)], args := [d1, d2] }
  | _ => none }
def fnAsksOfSplitRightWinsRow : OpenClaim := { program := "qxb6617894amods", sum := "67238240dbfbe1771be2f6ef45b3e0835cf51a5f8e3c8c0d0aa11e94dc1c6e33", func := "example.com/leadstone/leadstone/zzlaws_root_b1.FnAsksOfSplitRightWins", spec := "fnAsksOfSplitRightWins", make := .lifted ["publicsums"], apart := false }
def FnAsksOfSplitRightWinsSaid : Prop := fnAsksOfSplitRightWinsRow.holds Trym.pinned (OpenSpec.ofChange fnAsksOfSplitRightWinsSpec)

/-- ITS FALSE NEIGHBOUR: 'it returns false'. Refute it at one input. -/
def fnAsksOfSplitRightWinsWrong : ChangeSpec := { name := "fnAsksOfSplitRightWins", fn := fun _ => fun
  | [d1, d2] => { results := [.lit (.bool false)], args := [d1, d2] }
  | _ => none }
def FnAsksOfSplitRightWinsWrongFalsely : Prop := fnAsksOfSplitRightWinsRow.holds Trym.pinned (OpenSpec.ofChange fnAsksOfSplitRightWinsWrong)

end Rows
end Go.Proofs.Qxb6617894aMods
