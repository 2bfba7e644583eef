/-
  No cell of these rows narrows 'for every input' (looked for: loops, veiled, ifaces, maps, wideKeys, modest, calm, conditions, laid).
  DERIVED. THE GIVEN ROWS OF THIS SEAT. 2 by the template 'for every input the law returns true; each argument reads behind the call as it read before'; 0 by the template 'total and deterministic' (their statements: Qxb6608877aModsTotals.lean).
  GIVEN WITH THE SEED: the statements are not yours to turn. If you find one false, say at which input.
  Laid BY PROGRAM, IN A SANDBOX (cutbox-rows.mjs): the forced cells as the released guide's own fill.sh prints them over the translation 048adf7dd7d38e47… (all of the seat's roots in one cut). By AI agents, Wed Nov 11 2026. No macro, syntax, notation, axiom, sorry.
-/
import Derived.Test.Qxb6608877aModsChecked
import GoSem.Claim
import GoSem.ClaimJoined
import GoSem.ClaimMapViews
import Derived.JoinedTies
import Derived.KernelRfl
namespace Go.Proofs.Qxb6608877aMods
/- THE CELL 'sum', in the pinned program and in every row, IS THE sha256 OF THE DUMP (.gsa) THAT Qxb6608877aModsProg.lean LOADS. Nothing in Lean hashes anything: it is a label: what it is worth is what the hold of that sum in a sandbox is worth. -/
noncomputable def Trym.pinned : Pinned := { name := "qxb6608877amods", sum := "048adf7dd7d38e473c50e416063a5685168bae33b6d35eb321fd715cdc575ea6", checked := Trym.checked }
namespace Rows
def none {H : Type} : Left H := { results := [], args := [] }

/-- 'zzlaws_delivery_b1.FnBackoffNextDoublesUpToCap': WHATEVER THE INPUT: true; the input reads as it did. -/
def fnBackoffNextDoublesUpToCapSpec : ChangeSpec := { name := "fnBackoffNextDoublesUpToCap", fn := fun _ => fun
  | [d] => { results := [.lit (.bool true)], args := [d] }
  | _ => none }
def fnBackoffNextDoublesUpToCapRow : OpenClaim := { program := "qxb6608877amods", sum := "048adf7dd7d38e473c50e416063a5685168bae33b6d35eb321fd715cdc575ea6", func := "example.com/tidewire/tidewire/zzlaws_delivery_b1.FnBackoffNextDoublesUpToCap", spec := "fnBackoffNextDoublesUpToCap", make := .lifted ["publicsums"], apart := false }
def FnBackoffNextDoublesUpToCapSaid : Prop := fnBackoffNextDoublesUpToCapRow.holds Trym.pinned (OpenSpec.ofChange fnBackoffNextDoublesUpToCapSpec)

/-- ITS FALSE NEIGHBOUR: 'it returns false'. Refute it at one input. -/
def fnBackoffNextDoublesUpToCapWrong : ChangeSpec := { name := "fnBackoffNextDoublesUpToCap", fn := fun _ => fun
  | [d] => { results := [.lit (.bool false)], args := [d] }
  | _ => none }
def FnBackoffNextDoublesUpToCapWrongFalsely : Prop := fnBackoffNextDoublesUpToCapRow.holds Trym.pinned (OpenSpec.ofChange fnBackoffNextDoublesUpToCapWrong)

/-- 'zzlaws_delivery_b1.FnBackoffTotalWaitClosedForm': WHATEVER THE INPUT: true; the input reads as it did. -/
def fnBackoffTotalWaitClosedFormSpec : ChangeSpec := { name := "fnBackoffTotalWaitClosedForm", fn := fun _ => fun
  | [d] => { results := [.lit (.bool true)], args := [d] }
  | _ => none }
def fnBackoffTotalWaitClosedFormRow : OpenClaim := { program := "qxb6608877amods", sum := "048adf7dd7d38e473c50e416063a5685168bae33b6d35eb321fd715cdc575ea6", func := "example.com/tidewire/tidewire/zzlaws_delivery_b1.FnBackoffTotalWaitClosedForm", spec := "fnBackoffTotalWaitClosedForm", make := .lifted ["publicsums"], apart := false }
def FnBackoffTotalWaitClosedFormSaid : Prop := fnBackoffTotalWaitClosedFormRow.holds Trym.pinned (OpenSpec.ofChange fnBackoffTotalWaitClosedFormSpec)

/-- ITS FALSE NEIGHBOUR: 'it returns false'. Refute it at one input. -/
def fnBackoffTotalWaitClosedFormWrong : ChangeSpec := { name := "fnBackoffTotalWaitClosedForm", fn := fun _ => fun
  | [d] => { results := [.lit (.bool false)], args := [d] }
  | _ => none }
def FnBackoffTotalWaitClosedFormWrongFalsely : Prop := fnBackoffTotalWaitClosedFormRow.holds Trym.pinned (OpenSpec.ofChange fnBackoffTotalWaitClosedFormWrong)

end Rows
end Go.Proofs.Qxb6608877aMods
