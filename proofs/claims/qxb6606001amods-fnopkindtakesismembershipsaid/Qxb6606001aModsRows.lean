/-
  No cell of these rows narrows 'for every input' (looked for: loops, veiled, ifaces, maps, wideKeys, modest, calm, conditions, laid).
  DERIVED. THE GIVEN ROWS OF THIS SEAT. 2 by the template 'for every input the law returns true; each argument reads behind the call as it read before'; 0 by the template 'total and deterministic' (their statements: Qxb6606001aModsTotals.lean).
  GIVEN WITH THE SEED: the statements are not yours to turn. If you find one false, say at which input.
  Laid BY PROGRAM, IN A SANDBOX (cutbox-rows.mjs): the forced cells as the released guide's own fill.sh prints them over the translation c98a7d1fe762fded… (all of the seat's roots in one cut). By AI agents, Wed Nov 11 2026. No macro, syntax, notation, axiom, sorry.
-/
import Derived.Test.Qxb6606001aModsChecked
import GoSem.Claim
import GoSem.ClaimJoined
import GoSem.ClaimMapViews
import Derived.JoinedTies
import Derived.KernelRfl
namespace Go.Proofs.Qxb6606001aMods
/- THE CELL 'sum', in the pinned program and in every row, IS THE sha256 OF THE DUMP (.gsa) THAT Qxb6606001aModsProg.lean LOADS. Nothing in Lean hashes anything: it is a label: what it is worth is what the hold of that sum in a sandbox is worth. -/
noncomputable def Trym.pinned : Pinned := { name := "qxb6606001amods", sum := "c98a7d1fe762fded88a3a3085ebc5f971ec6112fdcb0c28ef35e4b7530acb81c", checked := Trym.checked }
namespace Rows
def none {H : Type} : Left H := { results := [], args := [] }

/-- 'zzlaws_pkg_ledger_b1.FnOpKindTakesIsMembership': WHATEVER THE INPUT: true; the input reads as it did. -/
def fnOpKindTakesIsMembershipSpec : ChangeSpec := { name := "fnOpKindTakesIsMembership", fn := fun _ => fun
  | [d1, d2] => { results := [.lit (.bool true)], args := [d1, d2] }
  | _ => none }
def fnOpKindTakesIsMembershipRow : OpenClaim := { program := "qxb6606001amods", sum := "c98a7d1fe762fded88a3a3085ebc5f971ec6112fdcb0c28ef35e4b7530acb81c", func := "example.com/ledgerloom/ledgerloom/zzlaws_pkg_ledger_b1.FnOpKindTakesIsMembership", spec := "fnOpKindTakesIsMembership", make := .lifted ["publicsums"], apart := false }
def FnOpKindTakesIsMembershipSaid : Prop := fnOpKindTakesIsMembershipRow.holds Trym.pinned (OpenSpec.ofChange fnOpKindTakesIsMembershipSpec)

/-- ITS FALSE NEIGHBOUR: 'it returns false'. Refute it at one input. -/
def fnOpKindTakesIsMembershipWrong : ChangeSpec := { name := "fnOpKindTakesIsMembership", fn := fun _ => fun
  | [d1, d2] => { results := [.lit (.bool false)], args := [d1, d2] }
  | _ => none }
def FnOpKindTakesIsMembershipWrongFalsely : Prop := fnOpKindTakesIsMembershipRow.holds Trym.pinned (OpenSpec.ofChange fnOpKindTakesIsMembershipWrong)

/-- 'zzlaws_pkg_ledger_b1.FnOpKindTakesAddedAndRemoved': WHATEVER THE INPUT: true; the input reads as it did. -/
def fnOpKindTakesAddedAndRemovedSpec : ChangeSpec := { name := "fnOpKindTakesAddedAndRemoved", fn := fun _ => fun
  | [d1, d2] => { results := [.lit (.bool true)], args := [d1, d2] }
  | _ => none }
def fnOpKindTakesAddedAndRemovedRow : OpenClaim := { program := "qxb6606001amods", sum := "c98a7d1fe762fded88a3a3085ebc5f971ec6112fdcb0c28ef35e4b7530acb81c", func := "example.com/ledgerloom/ledgerloom/zzlaws_pkg_ledger_b1.FnOpKindTakesAddedAndRemoved", spec := "fnOpKindTakesAddedAndRemoved", make := .lifted ["publicsums"], apart := false }
def FnOpKindTakesAddedAndRemovedSaid : Prop := fnOpKindTakesAddedAndRemovedRow.holds Trym.pinned (OpenSpec.ofChange fnOpKindTakesAddedAndRemovedSpec)

/-- ITS FALSE NEIGHBOUR: 'it returns false'. Refute it at one input. -/
def fnOpKindTakesAddedAndRemovedWrong : ChangeSpec := { name := "fnOpKindTakesAddedAndRemoved", fn := fun _ => fun
  | [d1, d2] => { results := [.lit (.bool false)], args := [d1, d2] }
  | _ => none }
def FnOpKindTakesAddedAndRemovedWrongFalsely : Prop := fnOpKindTakesAddedAndRemovedRow.holds Trym.pinned (OpenSpec.ofChange fnOpKindTakesAddedAndRemovedWrong)

end Rows
end Go.Proofs.Qxb6606001aMods
