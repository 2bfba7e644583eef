/-
  No cell of these rows narrows 'for every input' (looked for: loops, veiled, ifaces, maps, wideKeys, modest, calm, conditions, laid).
  DERIVED. THE GIVEN ROWS OF THIS SEAT. 4 by the template 'for every input the law returns true; each argument reads behind the call as it read before'; 0 by the template 'total and deterministic' (their statements: Qxb6608549aModsTotals.lean).
  GIVEN WITH THE SEED: the statements are not yours to turn. If you find one false, say at which input.
  Laid BY PROGRAM, IN A SANDBOX (cutbox-rows.mjs): the forced cells as the released guide's own fill.sh prints them over the translation c0bcf7d0364cd4f1… (all of the seat's roots in one cut). By AI agents, Wed Nov 11 2026. No macro, syntax, notation, axiom, sorry.
-/
import Derived.Test.Qxb6608549aModsChecked
import GoSem.Claim
import GoSem.ClaimJoined
import GoSem.ClaimMapViews
import Derived.JoinedTies
import Derived.KernelRfl
namespace Go.Proofs.Qxb6608549aMods
/- THE CELL 'sum', in the pinned program and in every row, IS THE sha256 OF THE DUMP (.gsa) THAT Qxb6608549aModsProg.lean LOADS. Nothing in Lean hashes anything: it is a label: what it is worth is what the hold of that sum in a sandbox is worth. -/
noncomputable def Trym.pinned : Pinned := { name := "qxb6608549amods", sum := "c0bcf7d0364cd4f1e86c5ec55cced5781ca72f73dab5aad5c2cbc3da170295bd", checked := Trym.checked }
namespace Rows
def none {H : Type} : Left H := { results := [], args := [] }

/-- 'zzlaws_internal_access_b1.FnValidNameJoin': WHATEVER THE INPUT: true; the input reads as it did. -/
def fnValidNameJoinSpec : ChangeSpec := { name := "fnValidNameJoin", fn := fun _ => fun
  | [d1, d2] => { results := [.lit (.bool true)], args := [d1, d2] }
  | _ => none }
def fnValidNameJoinRow : OpenClaim := { program := "qxb6608549amods", sum := "c0bcf7d0364cd4f1e86c5ec55cced5781ca72f73dab5aad5c2cbc3da170295bd", func := "example.com/grantline/grantline/zzlaws_internal_access_b1.FnValidNameJoin", spec := "fnValidNameJoin", make := .lifted ["publicsums"], apart := false }
def FnValidNameJoinSaid : Prop := fnValidNameJoinRow.holds Trym.pinned (OpenSpec.ofChange fnValidNameJoinSpec)

/-- ITS FALSE NEIGHBOUR: 'it returns false'. Refute it at one input. -/
def fnValidNameJoinWrong : ChangeSpec := { name := "fnValidNameJoin", fn := fun _ => fun
  | [d1, d2] => { results := [.lit (.bool false)], args := [d1, d2] }
  | _ => none }
def FnValidNameJoinWrongFalsely : Prop := fnValidNameJoinRow.holds Trym.pinned (OpenSpec.ofChange fnValidNameJoinWrong)

/-- 'zzlaws_internal_access_b1.FnUnauthenticatedIsApart': WHATEVER THE INPUT: true; the input reads as it did. -/
def fnUnauthenticatedIsApartSpec : ChangeSpec := { name := "fnUnauthenticatedIsApart", fn := fun _ => fun
  | [d1, d2, d3] => { results := [.lit (.bool true)], args := [d1, d2, d3] }
  | _ => none }
def fnUnauthenticatedIsApartRow : OpenClaim := { program := "qxb6608549amods", sum := "c0bcf7d0364cd4f1e86c5ec55cced5781ca72f73dab5aad5c2cbc3da170295bd", func := "example.com/grantline/grantline/zzlaws_internal_access_b1.FnUnauthenticatedIsApart", spec := "fnUnauthenticatedIsApart", make := .lifted ["publicsums"], apart := false }
def FnUnauthenticatedIsApartSaid : Prop := fnUnauthenticatedIsApartRow.holds Trym.pinned (OpenSpec.ofChange fnUnauthenticatedIsApartSpec)

/-- ITS FALSE NEIGHBOUR: 'it returns false'. Refute it at one input. -/
def fnUnauthenticatedIsApartWrong : ChangeSpec := { name := "fnUnauthenticatedIsApart", fn := fun _ => fun
  | [d1, d2, d3] => { results := [.lit (.bool false)], args := [d1, d2, d3] }
  | _ => none }
def FnUnauthenticatedIsApartWrongFalsely : Prop := fnUnauthenticatedIsApartRow.holds Trym.pinned (OpenSpec.ofChange fnUnauthenticatedIsApartWrong)

/-- 'zzlaws_internal_access_b1.FnMemberKeyReadsBack': WHATEVER THE INPUT: true; the input reads as it did. -/
def fnMemberKeyReadsBackSpec : ChangeSpec := { name := "fnMemberKeyReadsBack", fn := fun _ => fun
  | [d1, d2, d3, d4, d5, d6] => { results := [.lit (.bool true)], args := [d1, d2, d3, d4, d5, d6] }
  | _ => none }
def fnMemberKeyReadsBackRow : OpenClaim := { program := "qxb6608549amods", sum := "c0bcf7d0364cd4f1e86c5ec55cced5781ca72f73dab5aad5c2cbc3da170295bd", func := "example.com/grantline/grantline/zzlaws_internal_access_b1.FnMemberKeyReadsBack", spec := "fnMemberKeyReadsBack", inPlace := ["internal/abi.NoEscape", "internal/bytealg.MakeNoZero"], make := .lifted ["publicsums"], apart := false }
def FnMemberKeyReadsBackSaid : Prop := fnMemberKeyReadsBackRow.holds Trym.pinned (OpenSpec.ofChange fnMemberKeyReadsBackSpec)

/-- ITS FALSE NEIGHBOUR: 'it returns false'. Refute it at one input. -/
def fnMemberKeyReadsBackWrong : ChangeSpec := { name := "fnMemberKeyReadsBack", fn := fun _ => fun
  | [d1, d2, d3, d4, d5, d6] => { results := [.lit (.bool false)], args := [d1, d2, d3, d4, d5, d6] }
  | _ => none }
def FnMemberKeyReadsBackWrongFalsely : Prop := fnMemberKeyReadsBackRow.holds Trym.pinned (OpenSpec.ofChange fnMemberKeyReadsBackWrong)

/-- 'zzlaws_internal_access_b1.FnMemberKeyPrefixScan': WHATEVER THE INPUT: true; the input reads as it did. -/
def fnMemberKeyPrefixScanSpec : ChangeSpec := { name := "fnMemberKeyPrefixScan", fn := fun _ => fun
  | [d1, d2, d3, d4] => { results := [.lit (.bool true)], args := [d1, d2, d3, d4] }
  | _ => none }
def fnMemberKeyPrefixScanRow : OpenClaim := { program := "qxb6608549amods", sum := "c0bcf7d0364cd4f1e86c5ec55cced5781ca72f73dab5aad5c2cbc3da170295bd", func := "example.com/grantline/grantline/zzlaws_internal_access_b1.FnMemberKeyPrefixScan", spec := "fnMemberKeyPrefixScan", inPlace := ["internal/abi.NoEscape", "internal/bytealg.MakeNoZero"], make := .lifted ["publicsums"], apart := false }
def FnMemberKeyPrefixScanSaid : Prop := fnMemberKeyPrefixScanRow.holds Trym.pinned (OpenSpec.ofChange fnMemberKeyPrefixScanSpec)

/-- ITS FALSE NEIGHBOUR: 'it returns false'. Refute it at one input. -/
def fnMemberKeyPrefixScanWrong : ChangeSpec := { name := "fnMemberKeyPrefixScan", fn := fun _ => fun
  | [d1, d2, d3, d4] => { results := [.lit (.bool false)], args := [d1, d2, d3, d4] }
  | _ => none }
def FnMemberKeyPrefixScanWrongFalsely : Prop := fnMemberKeyPrefixScanRow.holds Trym.pinned (OpenSpec.ofChange fnMemberKeyPrefixScanWrong)

end Rows
end Go.Proofs.Qxb6608549aMods
