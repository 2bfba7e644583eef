/-
  No cell of these rows narrows 'for every input' (looked for: loops, veiled, ifaces, maps, wideKeys, modest, calm, conditions, laid).
  DERIVED. THE GIVEN ROWS OF THIS SEAT. 2 by the template 'for every input the law returns true; each argument reads behind the call as it read before'; 0 by the template 'total and deterministic' (their statements: Qxb6608727aModsTotals.lean).
  GIVEN WITH THE SEED: the statements are not yours to turn. If you find one false, say at which input.
  Laid BY PROGRAM, IN A SANDBOX (cutbox-rows.mjs): the forced cells as the released guide's own fill.sh prints them over the translation 6ddbe56c860b34e8… (all of the seat's roots in one cut). By AI agents, Wed Nov 11 2026. No macro, syntax, notation, axiom, sorry.
-/
import Derived.Test.Qxb6608727aModsChecked
import GoSem.Claim
import GoSem.ClaimJoined
import GoSem.ClaimMapViews
import Derived.JoinedTies
import Derived.KernelRfl
namespace Go.Proofs.Qxb6608727aMods
/- THE CELL 'sum', in the pinned program and in every row, IS THE sha256 OF THE DUMP (.gsa) THAT Qxb6608727aModsProg.lean LOADS. Nothing in Lean hashes anything: it is a label: what it is worth is what the hold of that sum in a sandbox is worth. -/
noncomputable def Trym.pinned : Pinned := { name := "qxb6608727amods", sum := "6ddbe56c860b34e891f6b9e35f3cf035f89aa50633d53b0faa59c4c1a51687fb", checked := Trym.checked }
namespace Rows
def none {H : Type} : Left H := { results := [], args := [] }

/-- 'zzlaws_repo_b1.FnSetFirstKeepsTheFirstPlaceOfEachKey': WHATEVER THE INPUT: true; the input reads as it did. -/
def fnSetFirstKeepsTheFirstPlaceOfEachKeySpec : ChangeSpec := { name := "fnSetFirstKeepsTheFirstPlaceOfEachKey", fn := fun _ => fun
  | [d1, d2, d3, d4] => { results := [.lit (.bool true)], args := [d1, d2, d3, d4] }
  | _ => none }
def fnSetFirstKeepsTheFirstPlaceOfEachKeyRow : OpenClaim := { program := "qxb6608727amods", sum := "6ddbe56c860b34e891f6b9e35f3cf035f89aa50633d53b0faa59c4c1a51687fb", func := "example.com/waymark/waymark/zzlaws_repo_b1.FnSetFirstKeepsTheFirstPlaceOfEachKey", spec := "fnSetFirstKeepsTheFirstPlaceOfEachKey", make := .lifted ["publicsums"], apart := false }
def FnSetFirstKeepsTheFirstPlaceOfEachKeySaid : Prop := fnSetFirstKeepsTheFirstPlaceOfEachKeyRow.holds Trym.pinned (OpenSpec.ofChange fnSetFirstKeepsTheFirstPlaceOfEachKeySpec)

/-- ITS FALSE NEIGHBOUR: 'it returns false'. Refute it at one input. -/
def fnSetFirstKeepsTheFirstPlaceOfEachKeyWrong : ChangeSpec := { name := "fnSetFirstKeepsTheFirstPlaceOfEachKey", fn := fun _ => fun
  | [d1, d2, d3, d4] => { results := [.lit (.bool false)], args := [d1, d2, d3, d4] }
  | _ => none }
def FnSetFirstKeepsTheFirstPlaceOfEachKeyWrongFalsely : Prop := fnSetFirstKeepsTheFirstPlaceOfEachKeyRow.holds Trym.pinned (OpenSpec.ofChange fnSetFirstKeepsTheFirstPlaceOfEachKeyWrong)

/-- 'zzlaws_repo_b1.FnSetFirstLaterPlaceNeverWins': WHATEVER THE INPUT: true; the input reads as it did. -/
def fnSetFirstLaterPlaceNeverWinsSpec : ChangeSpec := { name := "fnSetFirstLaterPlaceNeverWins", fn := fun _ => fun
  | [d1, d2, d3, d4, d5] => { results := [.lit (.bool true)], args := [d1, d2, d3, d4, d5] }
  | _ => none }
def fnSetFirstLaterPlaceNeverWinsRow : OpenClaim := { program := "qxb6608727amods", sum := "6ddbe56c860b34e891f6b9e35f3cf035f89aa50633d53b0faa59c4c1a51687fb", func := "example.com/waymark/waymark/zzlaws_repo_b1.FnSetFirstLaterPlaceNeverWins", spec := "fnSetFirstLaterPlaceNeverWins", make := .lifted ["publicsums"], apart := false }
def FnSetFirstLaterPlaceNeverWinsSaid : Prop := fnSetFirstLaterPlaceNeverWinsRow.holds Trym.pinned (OpenSpec.ofChange fnSetFirstLaterPlaceNeverWinsSpec)

/-- ITS FALSE NEIGHBOUR: 'it returns false'. Refute it at one input. -/
def fnSetFirstLaterPlaceNeverWinsWrong : ChangeSpec := { name := "fnSetFirstLaterPlaceNeverWins", fn := fun _ => fun
  | [d1, d2, d3, d4, d5] => { results := [.lit (.bool false)], args := [d1, d2, d3, d4, d5] }
  | _ => none }
def FnSetFirstLaterPlaceNeverWinsWrongFalsely : Prop := fnSetFirstLaterPlaceNeverWinsRow.holds Trym.pinned (OpenSpec.ofChange fnSetFirstLaterPlaceNeverWinsWrong)

end Rows
end Go.Proofs.Qxb6608727aMods
