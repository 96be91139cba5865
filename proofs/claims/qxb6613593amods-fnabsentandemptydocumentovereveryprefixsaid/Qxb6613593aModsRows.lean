/-
  No cell of these rows narrows 'for every input' (looked for: loops, veiled, ifaces, maps, wideKeys, modest, calm, conditions, laid).
  DERIVED. THE GIVEN ROWS OF THIS SEAT. 1 by the template 'for every input the law returns true; each argument reads behind the call as it read before'; 0 by the template 'total and deterministic' (their statements: Qxb6613593aModsTotals.lean).
  GIVEN WITH THE SEED: the statements are not yours to turn. If you find one false, say at which input.
  Laid BY PROGRAM, IN A SANDBOX (cutbox-rows.mjs): the forced cells as the released guide's own fill.sh prints them over the translation 9c7652ddd2268ce2… (all of the seat's roots in one cut). By AI agents, Wed Nov 11 2026. No macro, syntax, notation, axiom, sorry.
-/
import Derived.Test.Qxb6613593aModsChecked
import GoSem.Claim
import GoSem.ClaimJoined
import GoSem.ClaimMapViews
import Derived.JoinedTies
import Derived.KernelRfl
namespace Go.Proofs.Qxb6613593aMods
/- THE CELL 'sum', in the pinned program and in every row, IS THE sha256 OF THE DUMP (.gsa) THAT Qxb6613593aModsProg.lean LOADS. Nothing in Lean hashes anything: it is a label: what it is worth is what the hold of that sum in a sandbox is worth. -/
noncomputable def Trym.pinned : Pinned := { name := "qxb6613593amods", sum := "9c7652ddd2268ce20f846958fae94ffc9abb1abf766fa3526f825d90bd2a5de0", checked := Trym.checked }
namespace Rows
def none {H : Type} : Left H := { results := [], args := [] }

/-- 'zzlaws_internal_manifest_b1.FnAbsentAndEmptyDocumentOverEveryPrefix': WHATEVER THE INPUT: true; the input reads as it did. -/
def fnAbsentAndEmptyDocumentOverEveryPrefixSpec : ChangeSpec := { name := "fnAbsentAndEmptyDocumentOverEveryPrefix", fn := fun _ => fun
  | [d] => { results := [.lit (.bool true)], args := [d] }
  | _ => none }
def fnAbsentAndEmptyDocumentOverEveryPrefixRow : OpenClaim := { program := "qxb6613593amods", sum := "9c7652ddd2268ce20f846958fae94ffc9abb1abf766fa3526f825d90bd2a5de0", func := "example.com/placewright/placewright/zzlaws_internal_manifest_b1.FnAbsentAndEmptyDocumentOverEveryPrefix", spec := "fnAbsentAndEmptyDocumentOverEveryPrefix", make := .lifted ["publicsums"], apart := false }
def FnAbsentAndEmptyDocumentOverEveryPrefixSaid : Prop := fnAbsentAndEmptyDocumentOverEveryPrefixRow.holds Trym.pinned (OpenSpec.ofChange fnAbsentAndEmptyDocumentOverEveryPrefixSpec)

/-- ITS FALSE NEIGHBOUR: 'it returns false'. Refute it at one input. -/
def fnAbsentAndEmptyDocumentOverEveryPrefixWrong : ChangeSpec := { name := "fnAbsentAndEmptyDocumentOverEveryPrefix", fn := fun _ => fun
  | [d] => { results := [.lit (.bool false)], args := [d] }
  | _ => none }
def FnAbsentAndEmptyDocumentOverEveryPrefixWrongFalsely : Prop := fnAbsentAndEmptyDocumentOverEveryPrefixRow.holds Trym.pinned (OpenSpec.ofChange fnAbsentAndEmptyDocumentOverEveryPrefixWrong)

end Rows
end Go.Proofs.Qxb6613593aMods
